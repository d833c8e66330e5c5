-- Written by a program of this session (wip/tools/myprint.py) for this claim.
import Derived.Test.YtldjigfnagfalaaGreatDoorPWix0
namespace Go.Proofs.YtldjigfnagfalaaGreatDoor.PWi
open Go.RowKit Go.Proofs.YtldjigfnagfalaaGreatDoorW.PrintWords Go.Proofs.YtldjigfnagfalaaGreatDoorW.PrintLast Go.Proofs.YtldjigfnagfalaaGreatDoorW.PrintMore
attribute [local go_sem] max2_int min2_int max_two min_two max_three min_three max_four min_four   -- for this text's walks alone
set_option linter.unusedVariables false
set_option linter.unusedSimpArgs false

/-! ### spec_Size: function 13 -/
mutual
def spec_Size.j0 : Nat → Int → Bool → Option (Int)
  | 0, _, _ => none
  | k + 1, x3, x6 => if x6 = true then (some 2) else (if x3 = 98 then (spec_Size.j1 k x3 (x3 == 98)) else (if x3 = 105 then (spec_Size.j1 k x3 (x3 == 105)) else (if x3 = 117 then (spec_Size.j1 k x3 (x3 == 117)) else (spec_Size.j1 k x3 (x3 == 104)))))
def spec_Size.j1 : Nat → Int → Bool → Option (Int)
  | 0, _, _ => none
  | k + 1, x3, x9 => if x9 = true then (some 4) else (if x3 = 120 then (some 8) else (if x3 = 116 then (some 8) else (if x3 = 100 then (some 8) else (some 0))))
end
def spec_Size.f (k : Nat) (a0 : Int) : Option (Int) := if a0 = 121 then (some 1) else (if a0 = 110 then (spec_Size.j0 k a0 (a0 == 110)) else (spec_Size.j0 k a0 (a0 == 113)))
theorem spec_Size.mono_l : ∀ k, (∀ y0 y1, LeO (spec_Size.j0 k y0 y1) (spec_Size.j0 (k + 1) y0 y1)) ∧ (∀ y0 y1, LeO (spec_Size.j1 k y0 y1) (spec_Size.j1 (k + 1) y0 y1))
  | 0 => ⟨fun _ _ r h => by simp [spec_Size.j0] at h, fun _ _ r h => by simp [spec_Size.j1] at h⟩
  | k + 1 => by
    obtain ⟨ih0, ih1⟩ := spec_Size.mono_l k
    refine ⟨?_, ?_⟩
    · intro y0 y1
      unfold spec_Size.j0
      repeat' first
      | (with_reducible exact ih0 _ _)
      | (with_reducible exact ih1 _ _)
      | (with_reducible exact LeO.refl _)
      | (with_reducible exact LeO.none _)
      | (with_reducible refine LeO.ite ?_ ?_)
      | (with_reducible refine LeO.bind ?_ (fun _ => ?_))
      | exact ih0 _ _
      | exact ih1 _ _
      | exact LeO.none _
      | refine LeO.ite ?_ ?_
      | refine LeO.bind ?_ (fun _ => ?_)
    · intro y0 y1
      unfold spec_Size.j1
      repeat' first
      | (with_reducible exact ih0 _ _)
      | (with_reducible exact ih1 _ _)
      | (with_reducible exact LeO.refl _)
      | (with_reducible exact LeO.none _)
      | (with_reducible refine LeO.ite ?_ ?_)
      | (with_reducible refine LeO.bind ?_ (fun _ => ?_))
      | exact ih0 _ _
      | exact ih1 _ _
      | exact LeO.none _
      | refine LeO.ite ?_ ?_
      | refine LeO.bind ?_ (fun _ => ?_)
theorem spec_Size.mono : ∀ a0 k, LeO (spec_Size.f k a0) (spec_Size.f (k + 1) a0) := by
  intro a0 k
  obtain ⟨ih0, ih1⟩ := spec_Size.mono_l k
  unfold spec_Size.f
  repeat' first
      | (with_reducible exact ih0 _ _)
      | (with_reducible exact ih1 _ _)
      | (with_reducible exact LeO.refl _)
      | (with_reducible exact LeO.none _)
      | (with_reducible refine LeO.ite ?_ ?_)
      | (with_reducible refine LeO.bind ?_ (fun _ => ?_))
      | exact ih0 _ _
      | exact ih1 _ _
      | exact LeO.none _
      | refine LeO.ite ?_ ?_
      | refine LeO.bind ?_ (fun _ => ?_)
set_option maxHeartbeats 8000000 in
set_option maxRecDepth 100000 in
theorem spec_Size.calls (k : Nat) (a0 : Int) (r : Int) (w : World) (h : spec_Size.f k a0 = some r) :
    Calls Tryz.prog 13 #[.int .u8 a0] w fun e w' => e = .returned (.int .i64 r) ∧ Drawn0 w w' := by
  have H : (if a0 = 121 then (some 1) else (if a0 = 110 then (spec_Size.j0 k a0 (a0 == 110)) else (spec_Size.j0 k a0 (a0 == 113)))) = some r := h
  clear h
  by_cases c2 : a0 = 121
  · rw [if_pos c2] at H
    have c2b0 : (a0 == 121) = true := beq_iff_eq.mpr c2
    have c2b1 : (a0 != 121) = false := bne_eq_false_iff_eq.mpr c2
    clear c2
    obtain rfl := Option.some.inj H
    go_enter Tryz.func13, Tryz.ntmps13
    go_wp2
    go_ret
    exact ⟨by first | rfl | (simp; done) | (simp [*]; done), by repeat (first | exact Drawn0.refl _ | apply Drawn0.step)⟩
  · rw [if_neg c2] at H
    have c2b0 : (a0 == 121) = false := beq_eq_false_iff_ne.mpr c2
    have c2b1 : (a0 != 121) = true := bne_iff_ne.mpr c2
    have HC3 := Aside0.mk H
    clear H
    go_enter Tryz.func13, Tryz.ntmps13
    go_upto_if 6 with (fail)
    go_cut [6] (fun v6 wc => ∃ (kq : Nat) (x6_2 : Bool), v6 = .bool x6_2 ∧ Aside0 (spec_Size.j0 kq a0 x6_2 = some r) ∧ Aside0 (kq ≤ k) ∧ Drawn0 w wc)
    case first =>
      have H := HC3.out
      clear HC3
      by_cases c4 : a0 = 110
      · rw [if_pos c4] at H
        have c4b0 : (a0 == 110) = true := beq_iff_eq.mpr c4
        have c4b1 : (a0 != 110) = false := bne_eq_false_iff_eq.mpr c4
        clear c4
        (first | rw [c4b0] | (simp only [i64_w, i32_w]; rw [c4b0]) | skip)
        have H' := Aside0.mk H
        clear H
        go_wp2
        go_meet
        case rel => exact ⟨_, ((a0 == 110)), (by first | rfl | (simp; done) | (simp [*]; done)), H', ⟨by first | omega | exact Nat.le_refl _⟩, by repeat (first | exact Drawn0.refl _ | apply Drawn0.step)⟩
      · rw [if_neg c4] at H
        have c4b0 : (a0 == 110) = false := beq_eq_false_iff_ne.mpr c4
        have c4b1 : (a0 != 110) = true := bne_iff_ne.mpr c4
        (first | rw [c4b0] | (simp only [i64_w, i32_w]; rw [c4b0]) | skip)
        have H' := Aside0.mk H
        clear H
        go_wp2
        go_meet
        case rel => exact ⟨_, ((a0 == 113)), (by first | rfl | (simp; done) | (simp [*]; done)), H', ⟨by first | omega | exact Nat.le_refl _⟩, by repeat (first | exact Drawn0.refl _ | apply Drawn0.step)⟩
    case rest =>
      clear HC3
      try clear c1
      try clear c2
      try clear c2b0
      try clear c2b1
      try clear p2
      try clear c4
      try clear c4b0
      try clear c4b1
      obtain ⟨kq, x6_2, rfl, HA, HJ2, ⟨mc2, rfl⟩⟩ := hcut
      cases kq with
      | zero => exact absurd HA.out (by simp [spec_Size.j0])
      | succ kj2 =>
        have H := HA.out
        clear HA
        simp only [spec_Size.j0] at H
        by_cases c5 : x6_2 = true
        · subst c5
          have H1 : (some 2) = some r := by rw [if_pos rfl] at H; exact H
          clear H
          have H := H1
          clear H1
          obtain rfl := Option.some.inj H
          go_wp2
          go_ret
          exact ⟨by first | rfl | (simp; done) | (simp [*]; done), by repeat (first | exact Drawn0.refl _ | apply Drawn0.step)⟩
        · replace c5 := Bool.eq_false_iff.mpr c5
          subst c5
          have H1 : (if a0 = 98 then (spec_Size.j1 kj2 a0 (a0 == 98)) else (if a0 = 105 then (spec_Size.j1 kj2 a0 (a0 == 105)) else (if a0 = 117 then (spec_Size.j1 kj2 a0 (a0 == 117)) else (spec_Size.j1 kj2 a0 (a0 == 104))))) = some r := by rw [if_neg (show ¬ (false = true) by decide)] at H; exact H
          clear H
          have H := H1
          clear H1
          have HC6 := Aside0.mk H
          clear H
          go_upto_if 9 with (fail)
          go_cut [9] (fun v9 wc => ∃ (kq : Nat) (x9_5 : Bool), v9 = .bool x9_5 ∧ Aside0 (spec_Size.j1 kq a0 x9_5 = some r) ∧ Aside0 (kq ≤ kj2) ∧ Drawn0 w wc)
          case first =>
            have H := HC6.out
            clear HC6
            by_cases c7 : a0 = 98
            · rw [if_pos c7] at H
              have c7b0 : (a0 == 98) = true := beq_iff_eq.mpr c7
              have c7b1 : (a0 != 98) = false := bne_eq_false_iff_eq.mpr c7
              clear c7
              (first | rw [c7b0] | (simp only [i64_w, i32_w]; rw [c7b0]) | skip)
              have H' := Aside0.mk H
              clear H
              go_wp2
              go_meet
              case rel => exact ⟨_, ((a0 == 98)), (by first | rfl | (simp; done) | (simp [*]; done)), H', ⟨by have := HJ2.out; first | omega | exact Nat.le_refl _⟩, by repeat (first | exact Drawn0.refl _ | apply Drawn0.step)⟩
            · rw [if_neg c7] at H
              have c7b0 : (a0 == 98) = false := beq_eq_false_iff_ne.mpr c7
              have c7b1 : (a0 != 98) = true := bne_iff_ne.mpr c7
              (first | rw [c7b0] | (simp only [i64_w, i32_w]; rw [c7b0]) | skip)
              by_cases c8 : a0 = 105
              · rw [if_pos c8] at H
                have c8b0 : (a0 == 105) = true := beq_iff_eq.mpr c8
                have c8b1 : (a0 != 105) = false := bne_eq_false_iff_eq.mpr c8
                clear c8
                have H' := Aside0.mk H
                clear H
                go_wp2
                go_meet
                case rel => exact ⟨_, ((a0 == 105)), (by first | rfl | (simp; done) | (simp [*]; done)), H', ⟨by have := HJ2.out; first | omega | exact Nat.le_refl _⟩, by repeat (first | exact Drawn0.refl _ | apply Drawn0.step)⟩
              · rw [if_neg c8] at H
                have c8b0 : (a0 == 105) = false := beq_eq_false_iff_ne.mpr c8
                have c8b1 : (a0 != 105) = true := bne_iff_ne.mpr c8
                by_cases c9 : a0 = 117
                · rw [if_pos c9] at H
                  have c9b0 : (a0 == 117) = true := beq_iff_eq.mpr c9
                  have c9b1 : (a0 != 117) = false := bne_eq_false_iff_eq.mpr c9
                  clear c9
                  have H' := Aside0.mk H
                  clear H
                  go_wp2
                  go_meet
                  case rel => exact ⟨_, ((a0 == 117)), (by first | rfl | (simp; done) | (simp [*]; done)), H', ⟨by have := HJ2.out; first | omega | exact Nat.le_refl _⟩, by repeat (first | exact Drawn0.refl _ | apply Drawn0.step)⟩
                · rw [if_neg c9] at H
                  have c9b0 : (a0 == 117) = false := beq_eq_false_iff_ne.mpr c9
                  have c9b1 : (a0 != 117) = true := bne_iff_ne.mpr c9
                  have H' := Aside0.mk H
                  clear H
                  go_wp2
                  go_meet
                  case rel => exact ⟨_, ((a0 == 104)), (by first | rfl | (simp; done) | (simp [*]; done)), H', ⟨by have := HJ2.out; first | omega | exact Nat.le_refl _⟩, by repeat (first | exact Drawn0.refl _ | apply Drawn0.step)⟩
          case rest =>
            clear HC6
            try clear c1
            try clear c2
            try clear c2b0
            try clear c2b1
            try clear p2
            try clear c4
            try clear c4b0
            try clear c4b1
            try clear c5
            try clear c7
            try clear c7b0
            try clear c7b1
            try clear c8
            try clear c8b0
            try clear c8b1
            try clear c9
            try clear c9b0
            try clear c9b1
            try clear p2
            obtain ⟨kq, x9_5, rfl, HA, HJ5, ⟨mc5, rfl⟩⟩ := hcut
            cases kq with
            | zero => exact absurd HA.out (by simp [spec_Size.j1])
            | succ kj5 =>
              have H := HA.out
              clear HA
              simp only [spec_Size.j1] at H
              by_cases c10 : x9_5 = true
              · subst c10
                have H1 : (some 4) = some r := by rw [if_pos rfl] at H; exact H
                clear H
                have H := H1
                clear H1
                obtain rfl := Option.some.inj H
                go_wp2
                go_ret
                exact ⟨by first | rfl | (simp; done) | (simp [*]; done), by repeat (first | exact Drawn0.refl _ | apply Drawn0.step)⟩
              · replace c10 := Bool.eq_false_iff.mpr c10
                subst c10
                have H1 : (if a0 = 120 then (some 8) else (if a0 = 116 then (some 8) else (if a0 = 100 then (some 8) else (some 0)))) = some r := by rw [if_neg (show ¬ (false = true) by decide)] at H; exact H
                clear H
                have H := H1
                clear H1
                by_cases c11 : a0 = 120
                · rw [if_pos c11] at H
                  have c11b0 : (a0 == 120) = true := beq_iff_eq.mpr c11
                  have c11b1 : (a0 != 120) = false := bne_eq_false_iff_eq.mpr c11
                  clear c11
                  obtain rfl := Option.some.inj H
                  go_wp2
                  go_ret
                  exact ⟨by first | rfl | (simp; done) | (simp [*]; done), by repeat (first | exact Drawn0.refl _ | apply Drawn0.step)⟩
                · rw [if_neg c11] at H
                  have c11b0 : (a0 == 120) = false := beq_eq_false_iff_ne.mpr c11
                  have c11b1 : (a0 != 120) = true := bne_iff_ne.mpr c11
                  by_cases c12 : a0 = 116
                  · rw [if_pos c12] at H
                    have c12b0 : (a0 == 116) = true := beq_iff_eq.mpr c12
                    have c12b1 : (a0 != 116) = false := bne_eq_false_iff_eq.mpr c12
                    clear c12
                    obtain rfl := Option.some.inj H
                    go_wp2
                    go_ret
                    exact ⟨by first | rfl | (simp; done) | (simp [*]; done), by repeat (first | exact Drawn0.refl _ | apply Drawn0.step)⟩
                  · rw [if_neg c12] at H
                    have c12b0 : (a0 == 116) = false := beq_eq_false_iff_ne.mpr c12
                    have c12b1 : (a0 != 116) = true := bne_iff_ne.mpr c12
                    by_cases c13 : a0 = 100
                    · rw [if_pos c13] at H
                      have c13b0 : (a0 == 100) = true := beq_iff_eq.mpr c13
                      have c13b1 : (a0 != 100) = false := bne_eq_false_iff_eq.mpr c13
                      clear c13
                      obtain rfl := Option.some.inj H
                      go_wp2
                      go_ret
                      exact ⟨by first | rfl | (simp; done) | (simp [*]; done), by repeat (first | exact Drawn0.refl _ | apply Drawn0.step)⟩
                    · rw [if_neg c13] at H
                      have c13b0 : (a0 == 100) = false := beq_eq_false_iff_ne.mpr c13
                      have c13b1 : (a0 != 100) = true := bne_iff_ne.mpr c13
                      obtain rfl := Option.some.inj H
                      go_wp2
                      go_ret
                      exact ⟨by first | rfl | (simp; done) | (simp [*]; done), by repeat (first | exact Drawn0.refl _ | apply Drawn0.step)⟩

/-! ### spec_Wide: function 14 -/
def spec_Wide.f (a0 : Int) (a1 : Int) : Option (Int) := if a0 = 110 then (some (IntKind.u64.wrap (wrap64 (IntKind.i16.wrap (a1))))) else (if a0 = 105 then (some (IntKind.u64.wrap (wrap64 (wrap32 (a1))))) else (some a1))
set_option maxHeartbeats 8000000 in
set_option maxRecDepth 100000 in
theorem spec_Wide.calls (a0 : Int) (a1 : Int) (r : Int) (w : World) (h : spec_Wide.f a0 a1 = some r) :
    Calls Tryz.prog 14 #[.int .u8 a0, .int .u64 a1] w fun e w' => e = .returned (.int .u64 r) ∧ Drawn0 w w' := by
  have H : (if a0 = 110 then (some (IntKind.u64.wrap (wrap64 (IntKind.i16.wrap (a1))))) else (if a0 = 105 then (some (IntKind.u64.wrap (wrap64 (wrap32 (a1))))) else (some a1))) = some r := h
  clear h
  by_cases c3 : a0 = 110
  · rw [if_pos c3] at H
    have c3b0 : (a0 == 110) = true := beq_iff_eq.mpr c3
    have c3b1 : (a0 != 110) = false := bne_eq_false_iff_eq.mpr c3
    clear c3
    obtain rfl := Option.some.inj H
    go_enter Tryz.func14, Tryz.ntmps14
    go_wp2
    go_ret
    exact ⟨by first | rfl | (simp; done) | (simp [*]; done), by repeat (first | exact Drawn0.refl _ | apply Drawn0.step)⟩
  · rw [if_neg c3] at H
    have c3b0 : (a0 == 110) = false := beq_eq_false_iff_ne.mpr c3
    have c3b1 : (a0 != 110) = true := bne_iff_ne.mpr c3
    by_cases c4 : a0 = 105
    · rw [if_pos c4] at H
      have c4b0 : (a0 == 105) = true := beq_iff_eq.mpr c4
      have c4b1 : (a0 != 105) = false := bne_eq_false_iff_eq.mpr c4
      clear c4
      obtain rfl := Option.some.inj H
      go_enter Tryz.func14, Tryz.ntmps14
      go_wp2
      go_ret
      exact ⟨by first | rfl | (simp; done) | (simp [*]; done), by repeat (first | exact Drawn0.refl _ | apply Drawn0.step)⟩
    · rw [if_neg c4] at H
      have c4b0 : (a0 == 105) = false := beq_eq_false_iff_ne.mpr c4
      have c4b1 : (a0 != 105) = true := bne_iff_ne.mpr c4
      obtain rfl := Option.some.inj H
      go_enter Tryz.func14, Tryz.ntmps14
      go_wp2
      go_ret
      exact ⟨by first | rfl | (simp; done) | (simp [*]; done), by repeat (first | exact Drawn0.refl _ | apply Drawn0.step)⟩

/-! ### laws_wrNumber: function 5 -/
mutual
def laws_wrNumber.j0 : Nat → Int → Int → Bool → Int → Option (Int × Int × ByteArray × (List (S27)) × ByteArray)
  | 0, _, _, _, _ => none
  | k + 1, x0, x1, x2, x8 => if 0 ≤ x8 then (if (x8 : Int).toNat ≤ 281474976710656 then ((some (List.replicate (x8 : Int).toNat 0 : List Int)).bind fun y103 => (laws_wrNumber.l0 k x0 x1 x2 x8 y103 (y103.length : Int) 0)) else (none)) else (none)
def laws_wrNumber.l0 : Nat → Int → Int → Bool → Int → List Int → Int → Int → Option (Int × Int × ByteArray × (List (S27)) × ByteArray)
  | 0, _, _, _, _, _, _, _ => none
  | k + 1, x0, x1, x2, x8, x9, x26, x27 => if x27 < x26 then (if x2 = true then (if 0 ≤ (IntKind.u64.wrap (wrap64 (8 * x27))) then (if 0 ≤ (wrap64 ((wrap64 (x8 - 1)) - x27)) then (if (wrap64 ((wrap64 (x8 - 1)) - x27)) < (x9.length : Int) then (laws_wrNumber.l0 k x0 x1 x2 x8 (x9.set ((wrap64 ((wrap64 (x8 - 1)) - x27)) : Int).toNat ((shr .u64 x1 (IntKind.u64.wrap (wrap64 (8 * x27)))) % 256)) x26 (wrap64 (x27 + 1))) else (none)) else (none)) else (none)) else (if 0 ≤ (IntKind.u64.wrap (wrap64 (8 * x27))) then (if 0 ≤ x27 then (if x27 < (x9.length : Int) then (laws_wrNumber.l0 k x0 x1 x2 x8 (x9.set (x27 : Int).toNat ((shr .u64 x1 (IntKind.u64.wrap (wrap64 (8 * x27)))) % 256)) x26 (wrap64 (x27 + 1))) else (none)) else (none)) else (none))) else ((spec_Wide.f x0 x1).bind fun t108 => (some (x0, t108, (⟨#[]⟩ : ByteArray), ([] : List (S27)), strOfNums x9)))
end
def laws_wrNumber.f (k : Nat) (a0 : Int) (a1 : Int) (a2 : Bool) : Option (Int × Int × ByteArray × (List (S27)) × ByteArray) := (spec_Size.f k a0).bind fun t102 => (if t102 < 8 then (if 0 ≤ (IntKind.u64.wrap (wrap64 (8 * t102))) then (laws_wrNumber.j0 k a0 (Go.bits .and .u64 a1 (IntKind.u64.wrap ((shl .u64 1 (IntKind.u64.wrap (wrap64 (8 * t102)))) - 1))) a2 t102) else (none)) else (laws_wrNumber.j0 k a0 a1 a2 t102))
theorem laws_wrNumber.mono_l : ∀ k, (∀ y0 y1 y2 y3, LeO (laws_wrNumber.j0 k y0 y1 y2 y3) (laws_wrNumber.j0 (k + 1) y0 y1 y2 y3)) ∧ (∀ y0 y1 y2 y3 y4 y5 y6, LeO (laws_wrNumber.l0 k y0 y1 y2 y3 y4 y5 y6) (laws_wrNumber.l0 (k + 1) y0 y1 y2 y3 y4 y5 y6))
  | 0 => ⟨fun _ _ _ _ r h => by simp [laws_wrNumber.j0] at h, fun _ _ _ _ _ _ _ r h => by simp [laws_wrNumber.l0] at h⟩
  | k + 1 => by
    obtain ⟨ih0, ih1⟩ := laws_wrNumber.mono_l k
    refine ⟨?_, ?_⟩
    · intro y0 y1 y2 y3
      unfold laws_wrNumber.j0
      repeat' first
      | (with_reducible exact ih0 _ _ _ _)
      | (with_reducible exact ih1 _ _ _ _ _ _ _)
      | (with_reducible exact spec_Size.mono _ _)
      | (with_reducible exact LeO.refl _)
      | (with_reducible exact LeO.none _)
      | (with_reducible refine LeO.ite ?_ ?_)
      | (with_reducible refine LeO.bind ?_ (fun _ => ?_))
      | exact ih0 _ _ _ _
      | exact ih1 _ _ _ _ _ _ _
      | exact spec_Size.mono _ _
      | exact LeO.none _
      | refine LeO.ite ?_ ?_
      | refine LeO.bind ?_ (fun _ => ?_)
    · intro y0 y1 y2 y3 y4 y5 y6
      unfold laws_wrNumber.l0
      repeat' first
      | (with_reducible exact ih0 _ _ _ _)
      | (with_reducible exact ih1 _ _ _ _ _ _ _)
      | (with_reducible exact spec_Size.mono _ _)
      | (with_reducible exact LeO.refl _)
      | (with_reducible exact LeO.none _)
      | (with_reducible refine LeO.ite ?_ ?_)
      | (with_reducible refine LeO.bind ?_ (fun _ => ?_))
      | exact ih0 _ _ _ _
      | exact ih1 _ _ _ _ _ _ _
      | exact spec_Size.mono _ _
      | exact LeO.none _
      | refine LeO.ite ?_ ?_
      | refine LeO.bind ?_ (fun _ => ?_)
theorem laws_wrNumber.mono : ∀ a0 a1 a2 k, LeO (laws_wrNumber.f k a0 a1 a2) (laws_wrNumber.f (k + 1) a0 a1 a2) := by
  intro a0 a1 a2 k
  obtain ⟨ih0, ih1⟩ := laws_wrNumber.mono_l k
  unfold laws_wrNumber.f
  repeat' first
      | (with_reducible exact ih0 _ _ _ _)
      | (with_reducible exact ih1 _ _ _ _ _ _ _)
      | (with_reducible exact spec_Size.mono _ _)
      | (with_reducible exact LeO.refl _)
      | (with_reducible exact LeO.none _)
      | (with_reducible refine LeO.ite ?_ ?_)
      | (with_reducible refine LeO.bind ?_ (fun _ => ?_))
      | exact ih0 _ _ _ _
      | exact ih1 _ _ _ _ _ _ _
      | exact spec_Size.mono _ _
      | exact LeO.none _
      | refine LeO.ite ?_ ?_
      | refine LeO.bind ?_ (fun _ => ?_)
def laws_wrNumber.T13 : Bool × List (List Nat × List Nat) := (true, [([], []), ([], []), ([], []), ([1, 2], [1, 2]), ([0, 3], [0, 3]), ([], []), ([5], [5]), ([4, 3, 0, 1, 2, 3, 4], [4]), ([6, 7, 0, 1, 2, 3, 4, 5, 6, 7], [6])])
def laws_wrNumber.B13 : List Nat := [0, 0, 0, 6, 15, 0, 32, 31, 255]
theorem laws_wrNumber.tab13 : rtab .any (opsOf Tryz.f5 13) = laws_wrNumber.T13 := by kernel_rfl
theorem laws_wrNumber.bits13 : waitsOk laws_wrNumber.T13.2 laws_wrNumber.B13 = true := by kernel_rfl
set_option maxHeartbeats 8000000 in
set_option maxRecDepth 100000 in
theorem laws_wrNumber.calls (k : Nat) (a0 : Int) (a1 : Int) (a2 : Bool) (r1 : Int) (r2 : Int) (r3 : ByteArray) (r4 : List (S27)) (r5 : ByteArray) (w : World) (h : laws_wrNumber.f k a0 a1 a2 = some (r1, r2, r3, r4, r5)) :
    Calls Tryz.prog 5 #[.int .u8 a0, .int .u64 a1, .bool a2] w fun e w' => ∃ v3_ : Value, e = .returned (.tuple #[.agg #[.int .u8 r1, .int .u64 r2, .string r3, v3_], .string r5]) ∧ v3_ = .slice none 0 0 ∧ Kd.R k27 27 w' w.heap.size (fun _ => True) v3_ r4 ∧ Below w.heap.size w w' := by
  have hu27 := Tryz.underlying27
  have HB := Aside0.mk (Below.refl w.heap.size w)
  have H : ((spec_Size.f k a0).bind fun t102 => (if t102 < 8 then (if 0 ≤ (IntKind.u64.wrap (wrap64 (8 * t102))) then (laws_wrNumber.j0 k a0 (Go.bits .and .u64 a1 (IntKind.u64.wrap ((shl .u64 1 (IntKind.u64.wrap (wrap64 (8 * t102)))) - 1))) a2 t102) else (none)) else (laws_wrNumber.j0 k a0 a1 a2 t102))) = some (r1, r2, r3, r4, r5) := h
  clear h
  replace H := Option.bind_eq_some_iff.mp H
  obtain ⟨t102, A40, H⟩ := H
  replace H : (if t102 < 8 then (if 0 ≤ (IntKind.u64.wrap (wrap64 (8 * t102))) then (laws_wrNumber.j0 k a0 (Go.bits .and .u64 a1 (IntKind.u64.wrap ((shl .u64 1 (IntKind.u64.wrap (wrap64 (8 * t102)))) - 1))) a2 t102) else (none)) else (laws_wrNumber.j0 k a0 a1 a2 t102)) = some (r1, r2, r3, r4, r5) := H
  have A4 := Aside0.mk A40
  clear A40
  have HC5 := Aside0.mk H
  clear H
  go_enter Tryz.func5, Tryz.ntmps5
  go_upto_if 15 with (first | ((with_reducible refine gate_dst (N := 6) rfl ?_); refine box_event ?hg (N := 6) ?hd (cs := #[.int .u8 0, .int .u64 0, .string (⟨#[]⟩ : ByteArray), .slice none 0 0]) (t := 27) ?hr ?_; (case hd => rfl); (case hg => rfl); (case hr => first | (go_simp; done) | (go_simp; rfl)); intro gb101 hg w6 hbox hb; have n0_ := Aside0.mk (below_step (by repeat (first | (with_reducible first | exact HB.out | apply below_alloc | apply pw_below_drewN | apply below_drew1) | exact HB.out)) hb); have n1_ := Aside0.mk (hbox); have n2_ := Aside0.mk ((by rw [hg]; exact (below_size (by repeat (first | (with_reducible first | exact HB.out | apply below_alloc | apply pw_below_drewN | apply below_drew1) | exact HB.out))) : w.heap.size ≤ gb101)); have n3_ := Aside0.mk ((by rw [hg]; exact (below_size (by repeat (first | (with_reducible first | exact HB.out | apply below_alloc | apply pw_below_drewN | apply below_drew1) | exact HB.out))) : w.heap.size ≤ gb101)); clear HB; have HB := n0_; have BK101 := n1_; have GW101 := n2_; have GE101 := n3_; clear n0_ n1_ n2_ n3_; clear hb hbox hg) | ((with_reducible refine gate_callee (f := 13) rfl ?_); refine goesL_ (some 13) rfl rfl Tryz.func13 (by kernel_rfl) rfl #[.int .u8 a0] rfl (by (try simp only [List.map_toArray, List.map_cons, List.map_nil]); first | done | rfl | (simp only [List.length_drop, List.length_take]; rfl)) ?_; (with_reducible refine (spec_Size.calls k a0 t102 _ A4.out).mono ?_); rintro e w' ⟨rfl, ⟨nd, rfl⟩⟩; refine ⟨_, rfl, ?_⟩))
  (try simp only [Act.put, List.setIfInBounds_toArray, List.set_cons_zero, List.set_cons_succ])
  go_cut [1] (fun v1 wc => ∃ (kq : Nat) (x1_4 : Int), v1 = .int .u64 x1_4 ∧ Aside0 (laws_wrNumber.j0 kq a0 x1_4 a2 t102 = some (r1, r2, r3, r4, r5)) ∧ Aside0 (kq ≤ k) ∧ Aside0 (wc.heap[gb101]? = some (.cells #[.int .u8 0, .int .u64 0, .string (⟨#[]⟩ : ByteArray), (.slice none 0 0)] 27 (0, 0))) ∧ Aside0 (Below w.heap.size w wc))
  case first =>
    have H := HC5.out
    clear HC5
    by_cases c7 : t102 < 8
    · rw [if_pos c7] at H
      have c7b0 : decide (t102 < 8) = true := decide_eq_true c7
      clear c7
      (first | rw [c7b0] | (simp only [i64_w, i32_w]; rw [c7b0]) | skip)
      obtain ⟨ji8, hji8⟩ : ∃ j_ : Int, (IntKind.u64.wrap (wrap64 (8 * t102))) = j_ := ⟨_, rfl⟩
      replace H : (if 0 ≤ (ji8) then (laws_wrNumber.j0 k a0 (Go.bits .and .u64 a1 (IntKind.u64.wrap ((shl .u64 1 (ji8)) - 1))) a2 t102) else (none)) = some (r1, r2, r3, r4, r5) := by first | (rw [hji8] at H; exact H) | (simp only [hji8] at H ⊢; exact H)
      by_cases c9 : 0 ≤ (ji8)
      · rw [if_pos c9] at H
        have c9b0 := eq_true c9
        have c9b1 : decide (0 ≤ (ji8)) = true := decide_eq_true c9
        clear c9
        obtain ⟨ji10, hji10⟩ : ∃ j_ : Int, (shl .u64 1 (ji8)) = j_ := ⟨_, rfl⟩
        replace H : (laws_wrNumber.j0 k a0 (Go.bits .and .u64 a1 (IntKind.u64.wrap ((ji10) - 1))) a2 t102) = some (r1, r2, r3, r4, r5) := by first | (rw [hji10] at H; exact H) | (simp only [hji10] at H ⊢; exact H)
        have hji10_ : (IntKind.u64.wrap (1 * 2 ^ min (ji8).toNat 64)) = ji10 := hji10
        have hji10z : (ji8) ≤ 64 → (IntKind.u64.wrap (1 * 2 ^ (ji8).toNat)) = ji10 := shl_small hji10
        have hji10u : (IntKind.u64.wrap (2 ^ min (ji8).toNat 64)) = ji10 := by have h_ := hji10_; rw [Int.one_mul] at h_; exact h_
        have hji10v : (ji8) ≤ 64 → (IntKind.u64.wrap (2 ^ (ji8).toNat)) = ji10 := fun hle_ => by have h_ := hji10z hle_; rw [Int.one_mul] at h_; exact h_
        have H' := Aside0.mk H
        clear H
        go_wp2
        go_meet
        case rel => exact ⟨_, (Go.bits .and .u64 a1 (IntKind.u64.wrap ((ji10) - 1))), (by first | rfl | (simp; done) | (simp only [← hji10] <;> (first | rfl | simp)) | (simp [*]; done)), H', ⟨by first | omega | exact Nat.le_refl _⟩, ⟨by (with_reducible repeat (first | refine blk_drewN ?_ _ | refine blk_drew ?_ | refine blk_alloc ?_ _)); exact BK101.out⟩, ⟨by repeat (first | (with_reducible first | exact HB.out | apply below_alloc | apply pw_below_drewN | apply below_drew1 | refine below_set ?_ GE101.out) | exact HB.out)⟩⟩
      · rw [if_neg c9] at H
        exact absurd H (by simp)
    · rw [if_neg c7] at H
      have c7b0 : decide (t102 < 8) = false := decide_eq_false c7
      clear c7
      (first | rw [c7b0] | (simp only [i64_w, i32_w]; rw [c7b0]) | skip)
      have H' := Aside0.mk H
      clear H
      go_wp2
      go_meet
      case rel => exact ⟨_, (a1), (by first | rfl | (simp; done) | (simp [*]; done)), H', ⟨by first | omega | exact Nat.le_refl _⟩, ⟨by (with_reducible repeat (first | refine blk_drewN ?_ _ | refine blk_drew ?_ | refine blk_alloc ?_ _)); exact BK101.out⟩, ⟨by repeat (first | (with_reducible first | exact HB.out | apply below_alloc | apply pw_below_drewN | apply below_drew1 | refine below_set ?_ GE101.out) | exact HB.out)⟩⟩
  case rest =>
    clear HC5
    try clear c1
    try clear p2
    try clear c5
    try clear p6
    try clear c7
    try clear c7b0
    try clear c9
    try clear c9b0
    try clear c9b1
    obtain ⟨kq, x1_4, rfl, HA, HJ4, BK101, HB⟩ := hcut
    cases kq with
    | zero => exact absurd HA.out (by simp [laws_wrNumber.j0])
    | succ kj4 =>
      have H := HA.out
      clear HA
      simp only [laws_wrNumber.j0] at H
      by_cases c11 : 0 ≤ t102
      · rw [if_pos c11] at H
        have c11b0 := eq_true c11
        have c11b1 : decide (0 ≤ t102) = true := decide_eq_true c11
        clear c11
        by_cases c12 : (t102 : Int).toNat ≤ 281474976710656
        · rw [if_pos c12] at H
          have c12b0 := eq_true c12
          have c12b1 : decide ((t102 : Int).toNat ≤ 281474976710656) = true := decide_eq_true c12
          clear c12
          obtain ⟨y103, hy103⟩ : ∃ y_ : List Int, y_ = (List.replicate (t102 : Int).toNat 0) := ⟨_, rfl⟩
          replace H : (laws_wrNumber.l0 kj4 a0 x1_4 a2 t102 y103 (y103.length : Int) 0) = some (r1, r2, r3, r4, r5) := by first | (rw [hy103]; with_reducible exact H) | (have H2_ := (Option.bind_some _ _).symm.trans H; rw [hy103]; with_reducible exact H2_) | (have H2_ := (Option.bind_some _ _).symm.trans H; with_reducible exact H2_) | with_reducible exact H | (rw [hy103]; exact H) | exact H
          have Ny103 := Aside0.mk hy103
          clear hy103
          have H' := Aside0.mk H
          clear H
          go_wp2_with (first | ((with_reducible refine gate_dst (N := 24) rfl ?_); refine Kd.R_make (Kd.int .u8) _ 5 rfl (N := 24) rfl 24 _ _ rfl t102 rfl rfl Tryz.underlying24 (.int .u8 0) 1 info5 rfl (by decide) (by omega) 0 (ok := fun _ => True) (okp := fun _ => True) rfl (fun _ hk => hk) trivial (of_decide_eq_true (by first | (with_reducible assumption) | assumption)) (Nat.le_trans (Nat.mul_le_mul_right _ (of_decide_eq_true (by first | (with_reducible assumption) | assumption) : t102.toNat ≤ 281474976710656)) (by omega)) (Below.refl _ _) (Nat.le_refl _) ?_; intro v104 w13 ho14 hb hg_ hnew_; clear hg_ hnew_; (first | rw [← Ny103.out] at ho14 | (simp only [Int.reduceToNat] at ho14; rw [← Ny103.out] at ho14)); have n0_ := Aside0.mk (Kd.R_lower ho14 (below_size (by repeat (first | (with_reducible first | exact HB.out | apply below_alloc | apply pw_below_drewN | apply below_drew1 | refine below_set ?_ GE101.out) | exact HB.out)))); have n1_ := Aside0.mk (blk_below (g := gb101) (o := .cells #[.int .u8 0, .int .u64 0, .string (⟨#[]⟩ : ByteArray), .slice none 0 0] 27 (0, 0)) (by (with_reducible repeat (first | refine blk_drewN ?_ _ | refine blk_drew ?_ | refine blk_alloc ?_ _)); exact BK101.out) hb); have n2_ := Aside0.mk (below_step (by repeat (first | (with_reducible first | exact HB.out | apply below_alloc | apply pw_below_drewN | apply below_drew1 | refine below_set ?_ GE101.out) | exact HB.out)) hb); clear BK101; clear HB; have HO105 := n0_; have BK101 := n1_; have HB := n2_; clear n0_ n1_ n2_; clear hb ho14; obtain ⟨Ao15, co15, eo15⟩ := Kd.R_slice HO105.out; subst eo15))
          go_loopg [27] kj4 (fun kq v27 w' => ∃ (x9_2 : List Int) (x27_2 : Int), v27 = .int .i64 x27_2 ∧ Aside0 (laws_wrNumber.l0 kq a0 x1_4 a2 t102 x9_2 (y103.length : Int) x27_2 = some (r1, r2, r3, r4, r5)) ∧ Aside0 (kq ≤ kj4) ∧ Aside0 (Kd.R (Kd.int .u8) 5 w' w.heap.size (fun _ => True) (.slice Ao15 y103.length co15) x9_2) ∧ Aside0 (w'.heap[gb101]? = some (.cells #[.int .u8 0, .int .u64 0, .string (⟨#[]⟩ : ByteArray), (.slice none 0 0)] 27 (0, 0))) ∧ Aside0 (Below w.heap.size w w'))
          case atStart => exact ⟨(y103), (0), (by first | rfl | (simp; done) | (simp [*]; done)), H', ⟨Nat.le_refl _⟩, ⟨by (with_reducible repeat (first | apply Kd.R_alloc | apply Kd.R_drewN | apply Kd.R_drew)); exact HO105.out⟩, ⟨by (with_reducible repeat (first | refine blk_drewN ?_ _ | refine blk_drew ?_ | refine blk_alloc ?_ _)); exact BK101.out⟩, ⟨by repeat (first | (with_reducible first | exact HB.out | apply below_alloc | apply pw_below_drewN | apply below_drew1 | refine below_set ?_ GE101.out) | exact HB.out)⟩⟩
          case round =>
            clear H'
            try clear c1
            try clear p2
            try clear c5
            try clear p6
            try clear c7
            try clear c7b0
            try clear c9
            try clear c9b0
            try clear c9b1
            try clear c11
            try clear c11b0
            try clear c11b1
            try clear c12
            try clear c12b0
            try clear c12b1
            try clear c13
            try clear p2
            try clear p6
            obtain ⟨x9_2, x27_2, rfl, HA, HK2, HO_9, BK101, HB⟩ := hrel
            have hl9_2 := (Kd.R_reads' HO_9.out).1
            rw [hl9_2] at HO_9
            (try simp only [hl9_2])
            (try simp only [hl9_2] at BK101)
            cases gk with
            | zero => exact absurd HA.out (by simp [laws_wrNumber.l0])
            | succ k2 =>
              have H := HA.out
              clear HA
              simp only [laws_wrNumber.l0] at H
              by_cases c16 : x27_2 < (y103.length : Int)
              · rw [if_pos c16] at H
                have c16b0 : decide (x27_2 < (y103.length : Int)) = true := decide_eq_true c16
                clear c16
                replace c16b0 : decide (x27_2 < (x9_2.length : Int)) = true := by rw [← hl9_2]; exact c16b0
                by_cases c17 : a2 = true
                · subst c17
                  have H1 : (if 0 ≤ (IntKind.u64.wrap (wrap64 (8 * x27_2))) then (if 0 ≤ (wrap64 ((wrap64 (t102 - 1)) - x27_2)) then (if (wrap64 ((wrap64 (t102 - 1)) - x27_2)) < (x9_2.length : Int) then (laws_wrNumber.l0 k2 a0 x1_4 true t102 (x9_2.set ((wrap64 ((wrap64 (t102 - 1)) - x27_2)) : Int).toNat ((shr .u64 x1_4 (IntKind.u64.wrap (wrap64 (8 * x27_2)))) % 256)) (y103.length : Int) (wrap64 (x27_2 + 1))) else (none)) else (none)) else (none)) = some (r1, r2, r3, r4, r5) := by rw [if_pos rfl] at H; exact H
                  clear H
                  have H := H1
                  clear H1
                  obtain ⟨ji18, hji18⟩ : ∃ j_ : Int, (IntKind.u64.wrap (wrap64 (8 * x27_2))) = j_ := ⟨_, rfl⟩
                  replace H : (if 0 ≤ (ji18) then (if 0 ≤ (wrap64 ((wrap64 (t102 - 1)) - x27_2)) then (if (wrap64 ((wrap64 (t102 - 1)) - x27_2)) < (x9_2.length : Int) then (laws_wrNumber.l0 k2 a0 x1_4 true t102 (x9_2.set ((wrap64 ((wrap64 (t102 - 1)) - x27_2)) : Int).toNat ((shr .u64 x1_4 (ji18)) % 256)) (y103.length : Int) (wrap64 (x27_2 + 1))) else (none)) else (none)) else (none)) = some (r1, r2, r3, r4, r5) := by first | (rw [hji18] at H; exact H) | (simp only [hji18] at H ⊢; exact H)
                  by_cases c19 : 0 ≤ (ji18)
                  · rw [if_pos c19] at H
                    have c19b0 := eq_true c19
                    have c19b1 : decide (0 ≤ (ji18)) = true := decide_eq_true c19
                    clear c19
                    obtain ⟨ji20, hji20⟩ : ∃ j_ : Int, (shr .u64 x1_4 (ji18)) = j_ := ⟨_, rfl⟩
                    replace H : (if 0 ≤ (wrap64 ((wrap64 (t102 - 1)) - x27_2)) then (if (wrap64 ((wrap64 (t102 - 1)) - x27_2)) < (x9_2.length : Int) then (laws_wrNumber.l0 k2 a0 x1_4 true t102 (x9_2.set ((wrap64 ((wrap64 (t102 - 1)) - x27_2)) : Int).toNat ((ji20) % 256)) (y103.length : Int) (wrap64 (x27_2 + 1))) else (none)) else (none)) = some (r1, r2, r3, r4, r5) := by first | (rw [hji20] at H; exact H) | (simp only [hji20] at H ⊢; exact H)
                    have hji20_ : (x1_4 / 2 ^ min (ji18).toNat 64) = ji20 := hji20
                    have hji20z : (ji18) ≤ 64 → (x1_4 / 2 ^ (ji18).toNat) = ji20 := shr_small hji20
                    obtain ⟨ji21, hji21⟩ : ∃ j_ : Int, (wrap64 ((wrap64 (t102 - 1)) - x27_2)) = j_ := ⟨_, rfl⟩
                    replace H : (if 0 ≤ (ji21) then (if (ji21) < (x9_2.length : Int) then (laws_wrNumber.l0 k2 a0 x1_4 true t102 (x9_2.set ((ji21) : Int).toNat ((ji20) % 256)) (y103.length : Int) (wrap64 (x27_2 + 1))) else (none)) else (none)) = some (r1, r2, r3, r4, r5) := by first | (rw [hji21] at H; exact H) | (simp only [hji21] at H ⊢; exact H)
                    have hji21w : (IntKind.i64.wrap ((wrap64 (t102 - 1)) - x27_2)) = ji21 := (i64_w _).trans hji21
                    by_cases c22 : 0 ≤ (ji21)
                    · rw [if_pos c22] at H
                      have c22b0 : decide (0 ≤ (ji21)) = true := decide_eq_true c22
                      clear c22
                      by_cases c23 : (ji21) < (x9_2.length : Int)
                      · rw [if_pos c23] at H
                        have c23b0 : decide ((ji21) < (x9_2.length : Int)) = true := decide_eq_true c23
                        clear c23
                        obtain ⟨y106, hy106⟩ : ∃ y_ : List Int, y_ = (x9_2.set ((ji21) : Int).toNat ((ji20) % 256)) := ⟨_, rfl⟩
                        replace H : (laws_wrNumber.l0 k2 a0 x1_4 true t102 y106 (y103.length : Int) (wrap64 (x27_2 + 1))) = some (r1, r2, r3, r4, r5) := by first | (rw [hy106]; with_reducible exact H) | (have H2_ := (Option.bind_some _ _).symm.trans H; rw [hy106]; with_reducible exact H2_) | (have H2_ := (Option.bind_some _ _).symm.trans H; with_reducible exact H2_) | with_reducible exact H | (rw [hy106]; exact H) | exact H
                        have Ny106 := Aside0.mk hy106
                        clear hy106
                        have H' := Aside0.mk H
                        clear H
                        have p24 : 0 ≤ ((ji21) : Int) := of_decide_eq_true (by first | (with_reducible assumption) | assumption)
                        have q24 : ((ji21) : Int) < ((x9_2.length : Int) : Int) := of_decide_eq_true (by first | (with_reducible assumption) | assumption)
                        obtain ⟨go24, co24, eo24, gb24, gl24, cl24, HG24⟩ := Kd.R_form HO_9.out (by omega)
                        (first | cases eo24 | (injection eo24 with ea_ en_ ec_; (first | subst ea_ | (injection ea_ with ea_; subst ea_)); subst ec_; clear en_))
                        have GB24 := Aside0.mk gb24
                        have GG24 := Aside0.mk HG24
                        clear gb24 gl24 HG24
                        obtain ⟨hx24_0, hf24_0⟩ := Kd.R_celln 0 HO_9.out ((ji21) : Int) p24 q24
                        replace p24 := eq_true p24
                        replace q24 := eq_true q24
                        have HP25 := Kd.R_putg HO_9.out ((ji21) : Int) ((ji20) % 256)
                        go_wp2_with (first | ((with_reducible refine gate_store (t := 5) (p := 44) rfl ?_); refine store_event (t := 5) (p := 44) (v := ?vo_w26) (w1 := (wr.setCell ⟨go24, ((ji21) : Int).toNat, none⟩ (.int .u8 ((ji20) % 256)))) ?hg ?ho ?hn ?hr ?_; (case ho => rfl); (case hg => rfl); (case hn => rfl); (case hr => first | (go_simp; done) | (go_simp; rfl)); intro w26 hw; have hg : wr.grownBy w26 (some go24) := (by rw [hw]; exact HP25.2); have hp_ : Kd.R (Kd.int .u8) 5 w26 w.heap.size (fun _ => True) (.slice (some ⟨go24, 0, none⟩) x9_2.length co15) y106 := (by rw [hw, Ny106.out]; exact HP25.1); clear HP25; have n0_ := Aside0.mk (hp_); have n1_ := Aside0.mk (blk_grown (g := gb101) (o := .cells #[.int .u8 0, .int .u64 0, .string (⟨#[]⟩ : ByteArray), .slice none 0 0] 27 (0, 0)) (by (with_reducible repeat (first | refine blk_drewN ?_ _ | refine blk_drew ?_ | refine blk_alloc ?_ _)); exact BK101.out) hg (Kd.R_ne HO_9.out BK101.out (by decide))); have n2_ := Aside0.mk ((by rw [hw]; exact below_set (HB.out) GB24.out : Below w.heap.size w w26)); clear HO_9; clear BK101; clear HB; have HO_9 := n0_; have BK101 := n1_; have HB := n2_; clear n0_ n1_ n2_; clear hg hw hp_))
                        (try simp only [← hl9_2])
                        go_roundg k2
                        case measure => have := HJ4.out; have := HK2.out; omega
                        case rel => exact ⟨(y106), (wrap64 (x27_2 + 1)), (by first | rfl | (simp; done) | (simp [*]; done)), H', ⟨by have := HJ4.out; have := HK2.out; omega⟩, ⟨by (try simp only [hl9_2]); (with_reducible repeat (first | apply Kd.R_alloc | apply Kd.R_drewN | apply Kd.R_drew)); exact HO_9.out⟩, ⟨by (try simp only [hl9_2]); (with_reducible repeat (first | refine blk_drewN ?_ _ | refine blk_drew ?_ | refine blk_alloc ?_ _)); exact BK101.out⟩, ⟨by repeat (first | (with_reducible first | exact HB.out | apply below_alloc | apply pw_below_drewN | apply below_drew1 | refine below_set ?_ GE101.out) | exact HB.out)⟩⟩
                      · rw [if_neg c23] at H
                        exact absurd H (by simp)
                    · rw [if_neg c22] at H
                      exact absurd H (by simp)
                  · rw [if_neg c19] at H
                    exact absurd H (by simp)
                · replace c17 := Bool.eq_false_iff.mpr c17
                  subst c17
                  have H1 : (if 0 ≤ (IntKind.u64.wrap (wrap64 (8 * x27_2))) then (if 0 ≤ x27_2 then (if x27_2 < (x9_2.length : Int) then (laws_wrNumber.l0 k2 a0 x1_4 false t102 (x9_2.set (x27_2 : Int).toNat ((shr .u64 x1_4 (IntKind.u64.wrap (wrap64 (8 * x27_2)))) % 256)) (y103.length : Int) (wrap64 (x27_2 + 1))) else (none)) else (none)) else (none)) = some (r1, r2, r3, r4, r5) := by rw [if_neg (show ¬ (false = true) by decide)] at H; exact H
                  clear H
                  have H := H1
                  clear H1
                  obtain ⟨ji27, hji27⟩ : ∃ j_ : Int, (IntKind.u64.wrap (wrap64 (8 * x27_2))) = j_ := ⟨_, rfl⟩
                  replace H : (if 0 ≤ (ji27) then (if 0 ≤ x27_2 then (if x27_2 < (x9_2.length : Int) then (laws_wrNumber.l0 k2 a0 x1_4 false t102 (x9_2.set (x27_2 : Int).toNat ((shr .u64 x1_4 (ji27)) % 256)) (y103.length : Int) (wrap64 (x27_2 + 1))) else (none)) else (none)) else (none)) = some (r1, r2, r3, r4, r5) := by first | (rw [hji27] at H; exact H) | (simp only [hji27] at H ⊢; exact H)
                  by_cases c28 : 0 ≤ (ji27)
                  · rw [if_pos c28] at H
                    have c28b0 := eq_true c28
                    have c28b1 : decide (0 ≤ (ji27)) = true := decide_eq_true c28
                    clear c28
                    obtain ⟨ji29, hji29⟩ : ∃ j_ : Int, (shr .u64 x1_4 (ji27)) = j_ := ⟨_, rfl⟩
                    replace H : (if 0 ≤ x27_2 then (if x27_2 < (x9_2.length : Int) then (laws_wrNumber.l0 k2 a0 x1_4 false t102 (x9_2.set (x27_2 : Int).toNat ((ji29) % 256)) (y103.length : Int) (wrap64 (x27_2 + 1))) else (none)) else (none)) = some (r1, r2, r3, r4, r5) := by first | (rw [hji29] at H; exact H) | (simp only [hji29] at H ⊢; exact H)
                    have hji29_ : (x1_4 / 2 ^ min (ji27).toNat 64) = ji29 := hji29
                    have hji29z : (ji27) ≤ 64 → (x1_4 / 2 ^ (ji27).toNat) = ji29 := shr_small hji29
                    by_cases c30 : 0 ≤ x27_2
                    · rw [if_pos c30] at H
                      have c30b0 : decide (0 ≤ x27_2) = true := decide_eq_true c30
                      clear c30
                      by_cases c31 : x27_2 < (x9_2.length : Int)
                      · rw [if_pos c31] at H
                        have c31b0 : decide (x27_2 < (x9_2.length : Int)) = true := decide_eq_true c31
                        clear c31
                        obtain ⟨y107, hy107⟩ : ∃ y_ : List Int, y_ = (x9_2.set (x27_2 : Int).toNat ((ji29) % 256)) := ⟨_, rfl⟩
                        replace H : (laws_wrNumber.l0 k2 a0 x1_4 false t102 y107 (y103.length : Int) (wrap64 (x27_2 + 1))) = some (r1, r2, r3, r4, r5) := by first | (rw [hy107]; with_reducible exact H) | (have H2_ := (Option.bind_some _ _).symm.trans H; rw [hy107]; with_reducible exact H2_) | (have H2_ := (Option.bind_some _ _).symm.trans H; with_reducible exact H2_) | with_reducible exact H | (rw [hy107]; exact H) | exact H
                        have Ny107 := Aside0.mk hy107
                        clear hy107
                        have H' := Aside0.mk H
                        clear H
                        have p32 : 0 ≤ (x27_2 : Int) := of_decide_eq_true (by first | (with_reducible assumption) | assumption)
                        have q32 : (x27_2 : Int) < ((x9_2.length : Int) : Int) := of_decide_eq_true (by first | (with_reducible assumption) | assumption)
                        obtain ⟨go32, co32, eo32, gb32, gl32, cl32, HG32⟩ := Kd.R_form HO_9.out (by omega)
                        (first | cases eo32 | (injection eo32 with ea_ en_ ec_; (first | subst ea_ | (injection ea_ with ea_; subst ea_)); subst ec_; clear en_))
                        have GB32 := Aside0.mk gb32
                        have GG32 := Aside0.mk HG32
                        clear gb32 gl32 HG32
                        obtain ⟨hx32_0, hf32_0⟩ := Kd.R_celln 0 HO_9.out (x27_2 : Int) p32 q32
                        replace p32 := eq_true p32
                        replace q32 := eq_true q32
                        have HP33 := Kd.R_putg HO_9.out (x27_2 : Int) ((ji29) % 256)
                        go_wp2_with (first | ((with_reducible refine gate_store (t := 5) (p := 44) rfl ?_); refine store_event (t := 5) (p := 44) (v := ?vo_w34) (w1 := (wr.setCell ⟨go32, (x27_2 : Int).toNat, none⟩ (.int .u8 ((ji29) % 256)))) ?hg ?ho ?hn ?hr ?_; (case ho => rfl); (case hg => rfl); (case hn => rfl); (case hr => first | (go_simp; done) | (go_simp; rfl)); intro w34 hw; have hg : wr.grownBy w34 (some go32) := (by rw [hw]; exact HP33.2); have hp_ : Kd.R (Kd.int .u8) 5 w34 w.heap.size (fun _ => True) (.slice (some ⟨go32, 0, none⟩) x9_2.length co15) y107 := (by rw [hw, Ny107.out]; exact HP33.1); clear HP33; have n0_ := Aside0.mk (hp_); have n1_ := Aside0.mk (blk_grown (g := gb101) (o := .cells #[.int .u8 0, .int .u64 0, .string (⟨#[]⟩ : ByteArray), .slice none 0 0] 27 (0, 0)) (by (with_reducible repeat (first | refine blk_drewN ?_ _ | refine blk_drew ?_ | refine blk_alloc ?_ _)); exact BK101.out) hg (Kd.R_ne HO_9.out BK101.out (by decide))); have n2_ := Aside0.mk ((by rw [hw]; exact below_set (HB.out) GB32.out : Below w.heap.size w w34)); clear HO_9; clear BK101; clear HB; have HO_9 := n0_; have BK101 := n1_; have HB := n2_; clear n0_ n1_ n2_; clear hg hw hp_))
                        (try simp only [← hl9_2])
                        go_roundg k2
                        case measure => have := HJ4.out; have := HK2.out; omega
                        case rel => exact ⟨(y107), (wrap64 (x27_2 + 1)), (by first | rfl | (simp; done) | (simp [*]; done)), H', ⟨by have := HJ4.out; have := HK2.out; omega⟩, ⟨by (try simp only [hl9_2]); (with_reducible repeat (first | apply Kd.R_alloc | apply Kd.R_drewN | apply Kd.R_drew)); exact HO_9.out⟩, ⟨by (try simp only [hl9_2]); (with_reducible repeat (first | refine blk_drewN ?_ _ | refine blk_drew ?_ | refine blk_alloc ?_ _)); exact BK101.out⟩, ⟨by repeat (first | (with_reducible first | exact HB.out | apply below_alloc | apply pw_below_drewN | apply below_drew1 | refine below_set ?_ GE101.out) | exact HB.out)⟩⟩
                      · rw [if_neg c31] at H
                        exact absurd H (by simp)
                    · rw [if_neg c30] at H
                      exact absurd H (by simp)
                  · rw [if_neg c28] at H
                    exact absurd H (by simp)
              · rw [if_neg c16] at H
                have c16b0 : decide (x27_2 < (y103.length : Int)) = false := decide_eq_false c16
                clear c16
                replace c16b0 : decide (x27_2 < (x9_2.length : Int)) = false := by rw [← hl9_2]; exact c16b0
                replace H := Option.bind_eq_some_iff.mp H
                obtain ⟨t108, A350, H⟩ := H
                replace H : (some (a0, t108, (⟨#[]⟩ : ByteArray), ([] : List (S27)), strOfNums x9_2)) = some (r1, r2, r3, r4, r5) := H
                have A35 := Aside0.mk A350
                clear A350
                simp only [Option.some.injEq, Prod.mk.injEq] at H
                obtain ⟨rfl, rfl, rfl, rfl, rfl⟩ := H
                try go_wp2
                have n0_ := Aside0.mk (Kd.R_drew HO_9.out)
                have n1_ := Aside0.mk (blk_drew BK101.out)
                have n2_ := Aside0.mk (below_drew1 HB.out)
                clear HO_9
                clear BK101
                clear HB
                have HO_9 := n0_
                have BK101 := n1_
                have HB := n2_
                clear n0_ n1_ n2_
                refine start_ (n := 9) (S := fun w' => Kd.R (Kd.int .u8) 5 w' w.heap.size (fun _ => True) (.slice Ao15 x9_2.length co15) x9_2) (ds := []) #[false, false, false, false, false, false, false, false, false] (by kernel_rfl) rfl rfl HO_9.out (fun hHeld => ?_); refine with_tabW laws_wrNumber.tab13 laws_wrNumber.bits13 (fun HT_ HW_ => ?_)
                generalize wr.drew = w36 at HO_9 BK101 HB hHeld ⊢
                refine pure_ (i := 0) (N := some 46) (v := ?_) (a' := ?_) #[true, false, false, false, false, false, false, false, false] rfl rfl (any_of HT_.out (by kernel_rfl)) (fun _ _ _ h => h) (Or.inl ⟨by rfl, ?_⟩) ?_ ?_
                rotate_left
                · intro w'
                  go_simp
                  with_reducible rfl
                rotate_left
                · simp only [Act.put, List.setIfInBounds_toArray, List.set_cons_zero, List.set_cons_succ, i64_w, i32_w]
                  rfl
                refine pure_ (i := 1) (N := some 47) (v := ?_) (a' := ?_) #[true, true, false, false, false, false, false, false, false] rfl rfl (any_of HT_.out (by kernel_rfl)) (fun _ _ _ h => h) (Or.inl ⟨by rfl, ?_⟩) ?_ ?_
                rotate_left
                · intro w'
                  go_simp
                  with_reducible rfl
                rotate_left
                · simp only [Act.put, List.setIfInBounds_toArray, List.set_cons_zero, List.set_cons_succ, i64_w, i32_w]
                  rfl
                refine pure_ (i := 2) (N := some 48) (v := ?_) (a' := ?_) #[true, true, true, false, false, false, false, false, false] rfl rfl (any_of HT_.out (by kernel_rfl)) (fun _ _ _ h => h) (Or.inl ⟨by rfl, ?_⟩) ?_ ?_
                rotate_left
                · intro w'
                  go_simp
                  with_reducible rfl
                rotate_left
                · simp only [Act.put, List.setIfInBounds_toArray, List.set_cons_zero, List.set_cons_succ, i64_w, i32_w]
                  rfl
                refine pure_ (i := 5) (N := some 51) (v := ?_) (a' := ?_) #[true, true, true, false, false, true, false, false, false] rfl rfl (any_of HT_.out (by kernel_rfl)) (fun _ _ _ h => h) (Or.inl ⟨by rfl, ?_⟩) ?_ ?_
                rotate_left
                · intro w'
                  go_simp
                  with_reducible rfl
                rotate_left
                · simp only [Act.put, List.setIfInBounds_toArray, List.set_cons_zero, List.set_cons_succ, i64_w, i32_w]
                  rfl
                refine take_ (i := 6) (N := some 52) (v := .string (strOfNums x9_2)) (a' := ?_) #[true, true, true, false, false, true, true, false, false] rfl rfl (take_ofW HT_.out HW_.out (by kernel_rfl)) (fun _ _ _ h => h) (Or.inl ⟨by rfl, ?_⟩) hHeld ?_ ?_
                · intro w' hS_
                  have hcv_ := own_string (P := Tryz.prog) Tryz.underlying24 Tryz.underlying5 Tryz.underlying9 (Kd.own_of_R hS_)
                  go_simp
                rotate_left
                · simp only [Act.put, List.setIfInBounds_toArray, List.set_cons_zero, List.set_cons_succ, i64_w, i32_w]
                  rfl
                refine one_ (i := 3) (N := some 49) #[true, true, true, true, false, true, true, false, false] rfl rfl (one_of HT_.out (by kernel_rfl)) (by decide) (fun K hK => ?_)
                refine goes_ Tryz.func14 (by kernel_rfl) rfl #[.int .u8 a0, .int .u64 x1_4] (by rfl) rfl rfl (by (try simp only [List.map_toArray, List.map_cons, List.map_nil]); first | done | rfl | (simp only [List.length_drop, List.length_take]; rfl)) ?_
                with_reducible refine (spec_Wide.calls a0 x1_4 t108 _ A35.out).mono ?_
                rintro e w' ⟨rfl, ⟨nd, rfl⟩⟩
                refine ⟨_, rfl, ?_⟩
                refine hK.out _ _ (Kd.R_drewN HO_9.out nd) (fun hHeld => ?_)
                clear hK K
                refine norm_ (a' := ?_) ?_ ?_
                rotate_left
                · show Act.put _ (some 49) _ = _
                  simp only [Act.put, List.setIfInBounds_toArray, List.set_cons_zero, List.set_cons_succ, i64_w, i32_w]
                  rfl
                refine pure_ (i := 4) (N := some 50) (v := ?_) (a' := ?_) #[true, true, true, true, true, true, true, false, false] rfl rfl (any_of HT_.out (by kernel_rfl)) (fun _ _ _ h => h) (Or.inl ⟨by rfl, ?_⟩) ?_ ?_
                rotate_left
                · intro w'
                  go_simp
                  with_reducible rfl
                rotate_left
                · simp only [Act.put, List.setIfInBounds_toArray, List.set_cons_zero, List.set_cons_succ, i64_w, i32_w]
                  rfl
                refine one_ (i := 7) (N := none) #[true, true, true, true, true, true, true, true, false] rfl rfl (one_of HT_.out (by kernel_rfl)) (by decide) (fun K hK => ?_)
                have hs38 : w36.cell? ⟨gb101, 0, none⟩ = some (.int .u8 0) := (blk_cell BK101.out 0).trans rfl
                have hfs38 := blk_frozen BK101.out 0
                have hs39 : w36.cell? ⟨gb101, 1, none⟩ = some (.int .u64 0) := (blk_cell BK101.out 1).trans rfl
                have hfs39 := blk_frozen BK101.out 1
                have hs40 : w36.cell? ⟨gb101, 2, none⟩ = some (.string (⟨#[]⟩ : ByteArray)) := (blk_cell BK101.out 2).trans rfl
                have hfs40 := blk_frozen BK101.out 2
                have hs41 : w36.cell? ⟨gb101, 3, none⟩ = some (.slice none 0 0) := (blk_cell BK101.out 3).trans rfl
                have hfs41 := blk_frozen BK101.out 3
                refine skip_ (w1 := ?_) (by rfl) rfl ?_ ?_
                rotate_left
                · go_simp
                  rfl
                have bk0_ := blk_set (blk_drewN BK101.out nd) 0 (.int .u8 a0)
                have ro0_ := Kd.R_set (Kd.R_drewN HO_9.out nd) (blk_drewN BK101.out nd) (by decide) 0 (.int .u8 a0)
                have bk1_ := blk_set bk0_ 1 (.int .u64 t108)
                have ro1_ := Kd.R_set ro0_ bk0_ (by decide) 1 (.int .u64 t108)
                have bk2_ := blk_set bk1_ 2 (.string (⟨#[]⟩ : ByteArray))
                have ro2_ := Kd.R_set ro1_ bk1_ (by decide) 2 (.string (⟨#[]⟩ : ByteArray))
                have bk3_ := blk_set bk2_ 3 (.slice none 0 0)
                have ro3_ := Kd.R_set ro2_ bk2_ (by decide) 3 (.slice none 0 0)
                have bk_ := Aside0.mk bk3_
                have ro_ := Aside0.mk ro3_
                clear bk0_ bk1_ bk2_ bk3_ ro0_ ro1_ ro2_ ro3_
                refine hK.out _ _ ro_.out (fun hHeld => ?_)
                clear hK K
                refine pure_ (i := 8) (N := some 7) (v := ?_) (a' := ?_) #[true, true, true, true, true, true, true, true, true] rfl rfl (any_of HT_.out (by kernel_rfl)) (fun _ _ _ h => h) (Or.inl ⟨by rfl, ?_⟩) ?_ ?_
                rotate_left
                · intro w'
                  go_simp
                  with_reducible rfl
                rotate_left
                · simp only [Act.put, List.setIfInBounds_toArray, List.set_cons_zero, List.set_cons_succ, i64_w, i32_w]
                  rfl
                refine done_ (done_of HT_.out (by kernel_rfl)) ?_
                try go_wp2
                refine bodyPost_ret (results_ct rfl _ _ gb101 27 #[.int .u8 a0, .int .u64 t108, .string (⟨#[]⟩ : ByteArray), .slice none 0 0] (0, 0) _ rfl (by exact bk_.out) Tryz.underlying27 rfl (by kernel_rfl)) rfl ?_
                exact ⟨_, by first | rfl | (simp [errW_none, errW_some] <;> rfl) | (simp [*, errW_none, errW_some] <;> rfl), rfl, by first | exact Kd.R_nil _ _ _ _ _ | exact Kd.N_nil _ _ _ _ _ | exact Kd.V_nil _ _ _ _ _ | exact Kd.Q_nil _ _ _ _ _ | exact Kd.S_nil _ _ _ _ _, by repeat (first | (with_reducible first | exact HB.out | apply below_alloc | apply pw_below_drewN | apply below_drew1 | refine below_set ?_ GE101.out) | exact HB.out)⟩
        · rw [if_neg c12] at H
          exact absurd H (by simp)
      · rw [if_neg c11] at H
        exact absurd H (by simp)

/-! ### laws_wrZeros: function 7 -/
def laws_wrZeros.l0 : Nat → Int → Int → ByteArray → Option (ByteArray)
  | 0, _, _, _ => none
  | k + 1, x0, x1, x5 => if x1 = 0 then (none) else (if (Int.tmod (wrap64 (x0 + (x5.size : Int))) x1) = 0 then (some x5) else (if x5.size + 1 ≤ 9223372036854775807 then (laws_wrZeros.l0 k x0 x1 (x5 ++ (⟨#[0]⟩ : ByteArray))) else (none)))
def laws_wrZeros.f (k : Nat) (a0 : Int) (a1 : Int) : Option (ByteArray) := laws_wrZeros.l0 k a0 a1 (⟨#[]⟩ : ByteArray)
theorem laws_wrZeros.mono_l : ∀ k, (∀ y0 y1 y2, LeO (laws_wrZeros.l0 k y0 y1 y2) (laws_wrZeros.l0 (k + 1) y0 y1 y2))
  | 0 => fun _ _ _ r h => by simp [laws_wrZeros.l0] at h
  | k + 1 => by
    have ih0 := laws_wrZeros.mono_l k
    · intro y0 y1 y2
      unfold laws_wrZeros.l0
      repeat' first
      | (with_reducible exact ih0 _ _ _)
      | (with_reducible exact LeO.refl _)
      | (with_reducible exact LeO.none _)
      | (with_reducible refine LeO.ite ?_ ?_)
      | (with_reducible refine LeO.bind ?_ (fun _ => ?_))
      | exact ih0 _ _ _
      | exact LeO.none _
      | refine LeO.ite ?_ ?_
      | refine LeO.bind ?_ (fun _ => ?_)
theorem laws_wrZeros.mono : ∀ a0 a1 k, LeO (laws_wrZeros.f k a0 a1) (laws_wrZeros.f (k + 1) a0 a1) := by
  intro a0 a1 k
  have ih0 := laws_wrZeros.mono_l k
  unfold laws_wrZeros.f
  repeat' first
      | (with_reducible exact ih0 _ _ _)
      | (with_reducible exact LeO.refl _)
      | (with_reducible exact LeO.none _)
      | (with_reducible refine LeO.ite ?_ ?_)
      | (with_reducible refine LeO.bind ?_ (fun _ => ?_))
      | exact ih0 _ _ _
      | exact LeO.none _
      | refine LeO.ite ?_ ?_
      | refine LeO.bind ?_ (fun _ => ?_)
set_option maxHeartbeats 8000000 in
set_option maxRecDepth 100000 in
theorem laws_wrZeros.calls (k : Nat) (a0 : Int) (a1 : Int) (r : ByteArray) (w : World) (h : laws_wrZeros.f k a0 a1 = some r) :
    Calls Tryz.prog 7 #[.int .i64 a0, .int .i64 a1] w fun e w' => e = .returned (.string r) ∧ Drawn0 w w' := by
  have H : (laws_wrZeros.l0 k a0 a1 (⟨#[]⟩ : ByteArray)) = some r := h
  clear h
  have H' := Aside0.mk H
  clear H
  go_enter Tryz.func7, Tryz.ntmps7
  go_wp2
  go_loopg [5] k (fun kq v5 w' => ∃ (x5_1 : ByteArray), v5 = .string x5_1 ∧ Aside0 (laws_wrZeros.l0 kq a0 a1 x5_1 = some r) ∧ Aside0 (kq ≤ k) ∧ Drawn0 w w')
  case atStart => exact ⟨((⟨#[]⟩ : ByteArray)), (by first | rfl | (simp; done) | (simp [*]; done)), H', ⟨Nat.le_refl _⟩, by repeat (first | exact Drawn0.refl _ | apply Drawn0.step)⟩
  case round =>
    clear H'
    try clear p2
    obtain ⟨x5_1, rfl, HA, HK1, ⟨m1, rfl⟩⟩ := hrel
    cases gk with
    | zero => exact absurd HA.out (by simp [laws_wrZeros.l0])
    | succ k1 =>
      have H := HA.out
      clear HA
      simp only [laws_wrZeros.l0] at H
      by_cases c3 : a1 = 0
      · rw [if_pos c3] at H
        exact absurd H (by simp)
      · rw [if_neg c3] at H
        have c3b0 : (a1 == 0) = false := beq_eq_false_iff_ne.mpr c3
        have c3b1 : (a1 != 0) = true := bne_iff_ne.mpr c3
        by_cases c4 : (Int.tmod (wrap64 (a0 + (x5_1.size : Int))) a1) = 0
        · rw [if_pos c4] at H
          have c4b0 : ((Int.tmod (wrap64 (a0 + (x5_1.size : Int))) a1) == 0) = true := beq_iff_eq.mpr c4
          have c4b1 : ((Int.tmod (wrap64 (a0 + (x5_1.size : Int))) a1) != 0) = false := bne_eq_false_iff_eq.mpr c4
          clear c4
          obtain rfl := Option.some.inj H
          go_wp2
          go_ret
          exact ⟨by first | rfl | (simp; done) | (simp [*]; done), by repeat (first | exact Drawn0.refl _ | apply Drawn0.step)⟩
        · rw [if_neg c4] at H
          have c4b0 : ((Int.tmod (wrap64 (a0 + (x5_1.size : Int))) a1) == 0) = false := beq_eq_false_iff_ne.mpr c4
          have c4b1 : ((Int.tmod (wrap64 (a0 + (x5_1.size : Int))) a1) != 0) = true := bne_iff_ne.mpr c4
          by_cases c5 : x5_1.size + 1 ≤ 9223372036854775807
          · rw [if_pos c5] at H
            have c5b0 := eq_true c5
            have c5b1 : decide (x5_1.size + 1 ≤ 9223372036854775807) = true := decide_eq_true c5
            try have c5b2 : (9223372036854775807 < x5_1.size + 1) = False := eq_false (Nat.not_lt.2 c5)
            have H' := Aside0.mk H
            clear H
            go_wp2
            go_roundg k1
            case measure => have := HK1.out; omega
            case rel => exact ⟨(x5_1 ++ (⟨#[0]⟩ : ByteArray)), (by first | rfl | (simp; done) | (simp [*]; done)), H', ⟨by have := HK1.out; omega⟩, by repeat (first | exact Drawn0.refl _ | apply Drawn0.step)⟩
          · rw [if_neg c5] at H
            exact absurd H (by simp)

/-! ### laws_wrCount: function 8 -/
def laws_wrCount.f (k : Nat) (a0 : Int) (a1 : Bool) : Option (ByteArray) := (laws_wrNumber.f k 117 (IntKind.u64.wrap (a0)) a1).bind fun bt109 => (some bt109.2.2.2.2)
theorem laws_wrCount.mono : ∀ a0 a1 k, LeO (laws_wrCount.f k a0 a1) (laws_wrCount.f (k + 1) a0 a1) := by
  intro a0 a1 k
  unfold laws_wrCount.f
  repeat' first
      | (with_reducible exact laws_wrNumber.mono _ _ _ _)
      | (with_reducible exact LeO.refl _)
      | (with_reducible exact LeO.none _)
      | (with_reducible refine LeO.ite ?_ ?_)
      | (with_reducible refine LeO.bind ?_ (fun _ => ?_))
      | exact laws_wrNumber.mono _ _ _ _
      | exact LeO.none _
      | refine LeO.ite ?_ ?_
      | refine LeO.bind ?_ (fun _ => ?_)
set_option maxHeartbeats 8000000 in
set_option maxRecDepth 100000 in
theorem laws_wrCount.calls (k : Nat) (a0 : Int) (a1 : Bool) (r : ByteArray) (w : World) (h : laws_wrCount.f k a0 a1 = some r) :
    Calls Tryz.prog 8 #[.int .i64 a0, .bool a1] w fun e w' => e = .returned (.string r) ∧ Below w.heap.size w w' := by
  have hu27 := Tryz.underlying27
  have HB := Aside0.mk (Below.refl w.heap.size w)
  have H : ((laws_wrNumber.f k 117 (IntKind.u64.wrap (a0)) a1).bind fun bt109 => (some bt109.2.2.2.2)) = some r := h
  clear h
  replace H := Option.bind_eq_some_iff.mp H
  obtain ⟨⟨t109, t110, t111, t112, t115⟩, A30, H⟩ := H
  replace H : (some t115) = some r := H
  have A3 := Aside0.mk A30
  clear A30
  obtain rfl := Option.some.inj H
  go_enter Tryz.func8, Tryz.ntmps8
  go_wp2_with (first | ((with_reducible refine gate_callee (f := 5) rfl ?_); refine goesL_ (some 11) rfl rfl Tryz.func5 (by kernel_rfl) rfl #[.int .u8 117, .int .u64 (IntKind.u64.wrap (a0)), .bool a1] rfl (by (try simp only [List.map_toArray, List.map_cons, List.map_nil]); first | done | rfl | (simp only [List.length_drop, List.length_take]; rfl)) ?_; (with_reducible refine (laws_wrNumber.calls k 117 (IntKind.u64.wrap (a0)) a1 t109 t110 t111 t112 t115 _ A3.out).mono ?_); rintro e w4 ⟨v113, rfl, -, ho0, hb⟩; refine ⟨_, rfl, ?_⟩; have n0_ := Aside0.mk (Kd.R_lower ho0 (below_size (by repeat (first | (with_reducible first | exact HB.out | apply below_alloc | apply pw_below_drewN | apply below_drew1) | exact HB.out)))); have n1_ := Aside0.mk (below_step (by repeat (first | (with_reducible first | exact HB.out | apply below_alloc | apply pw_below_drewN | apply below_drew1) | exact HB.out)) hb); clear HB; have HO114 := n0_; have HB := n1_; clear n0_ n1_; (try clear hb); (try clear hb2); (try clear hk); (try clear hi); (try clear ho0)) | ((with_reducible refine gate_dst (N := 5) rfl ?_); refine box_event ?hg (N := 5) ?hd (cs := #[.int .u8 0, .int .u64 0, .string (⟨#[]⟩ : ByteArray), .slice none 0 0]) (t := 27) ?hr ?_; (case hd => rfl); (case hg => rfl); (case hr => first | (go_simp; done) | (go_simp; rfl)); intro gb116 hg w5 hbox hb; have n0_ := Aside0.mk (Kd.R_below (Kd.R_elderB (by (with_reducible repeat (first | apply Kd.R_alloc | apply Kd.R_drewN | apply Kd.R_drew)); exact HO114.out) gb116 (Nat.le_of_eq hg.symm)) hb); have n1_ := Aside0.mk (below_step (by repeat (first | (with_reducible first | exact HB.out | apply below_alloc | apply pw_below_drewN | apply below_drew1) | exact HB.out)) hb); have n2_ := Aside0.mk (hbox); have n3_ := Aside0.mk ((by rw [hg]; exact (below_size (by repeat (first | (with_reducible first | exact HB.out | apply below_alloc | apply pw_below_drewN | apply below_drew1) | exact HB.out))) : w.heap.size ≤ gb116)); have n4_ := Aside0.mk ((by rw [hg]; exact (below_size (by repeat (first | (with_reducible first | exact HB.out | apply below_alloc | apply pw_below_drewN | apply below_drew1) | exact HB.out))) : w.heap.size ≤ gb116)); clear HO114; clear HB; have HO114 := n0_; have HB := n1_; have BK116 := n2_; have GW116 := n3_; have GE116 := n4_; clear n0_ n1_ n2_ n3_ n4_; clear hb hbox hg; have hcz6_0 : w5.cell? ⟨gb116, 0, none⟩ = some (.int .u8 0) := (blk_cell BK116.out 0).trans rfl; have hcz6_1 : w5.cell? ⟨gb116, 1, none⟩ = some (.int .u64 0) := (blk_cell BK116.out 1).trans rfl; have hcz6_2 : w5.cell? ⟨gb116, 2, none⟩ = some (.string (⟨#[]⟩ : ByteArray)) := (blk_cell BK116.out 2).trans rfl; have hcz6_3 : w5.cell? ⟨gb116, 3, none⟩ = some (.slice none 0 0) := (blk_cell BK116.out 3).trans rfl; have hfz6_0 := blk_frozen BK116.out 0; have hfz6_1 := blk_frozen BK116.out 1; have hfz6_2 := blk_frozen BK116.out 2; have hfz6_3 := blk_frozen BK116.out 3; obtain ⟨Ao7, co7, eo7⟩ := Kd.R_slice HO114.out; subst eo7))
  go_ret
  exact ⟨by first | rfl | (simp [errW_none, errW_some] <;> rfl) | (simp [*, errW_none, errW_some] <;> rfl), by repeat (first | (with_reducible first | exact HB.out | apply below_alloc | apply pw_below_drewN | apply below_drew1 | refine below_set ?_ GE116.out) | exact HB.out)⟩

end Go.Proofs.YtldjigfnagfalaaGreatDoor.PWi

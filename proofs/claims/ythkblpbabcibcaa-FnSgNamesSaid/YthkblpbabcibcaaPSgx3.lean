-- Written by a program of this session (wip/tools/myprint.py) for this claim.
import Derived.Test.YthkblpbabcibcaaPSgx0
import Derived.Test.YthkblpbabcibcaaPSgx1
import Derived.Test.YthkblpbabcibcaaPSgx2
namespace Go.Proofs.Ythkblpbabcibcaa.PSg
open Go.RowKit Go.Proofs.YthkblpbabcibcaaW.PrintWords Go.Proofs.YthkblpbabcibcaaW.PrintLast Go.Proofs.YthkblpbabcibcaaW.PrintMore
attribute [local go_sem] max2_int min2_int max_two min_two max_three min_three max_four min_four   -- for this text's walks alone
set_option linter.unusedVariables false
set_option linter.unusedSimpArgs false

/-! ### laws_FnSgNames: function 6 -/
mutual
def laws_FnSgNames.j0 : Nat → ByteArray → Int → ByteArray → Bool → Option (Bool)
  | 0, _, _, _, _ => none
  | k + 1, x0, x1, x2, x18 => if x18 = true then (some true) else (if (wrap64 ((x0.size : Int) + (x2.size : Int))) > 4096 then (laws_FnSgNames.j1 k x0 x1 x2 true) else ((spec_Basic.f x1).bind fun t119 => (if t119 = true then (laws_FnSgNames.j1 k x0 x1 x2 true) else (if x1 = 118 then (laws_FnSgNames.j1 k x0 x1 x2 true) else (if x1 = 97 then (laws_FnSgNames.j1 k x0 x1 x2 true) else (if x1 = 40 then (laws_FnSgNames.j1 k x0 x1 x2 true) else (if x1 = 41 then (laws_FnSgNames.j1 k x0 x1 x2 true) else (if x1 = 123 then (laws_FnSgNames.j1 k x0 x1 x2 true) else (if x1 = 125 then (laws_FnSgNames.j1 k x0 x1 x2 true) else ((some (([x1] : List Int) : List Int)).bind fun y120 => (if x0.size + (strOfNums y120).size ≤ 9223372036854775807 then (if (x0 ++ (strOfNums y120)).size + x2.size ≤ 9223372036854775807 then ((laws_sgLeft.f k ((x0 ++ (strOfNums y120)) ++ x2)).bind fun t123 => (laws_FnSgNames.j1 k x0 x1 x2 t123)) else (none)) else (none))))))))))))
def laws_FnSgNames.j1 : Nat → ByteArray → Int → ByteArray → Bool → Option (Bool)
  | 0, _, _, _, _ => none
  | k + 1, x0, x1, x2, x62 => if x62 = true then (some true) else ((some (([x1] : List Int) : List Int)).bind fun y124 => (if x0.size + (strOfNums y124).size ≤ 9223372036854775807 then (if (x0 ++ (strOfNums y124)).size + x2.size ≤ 9223372036854775807 then ((Given.SgParse.f ((x0 ++ (strOfNums y124)) ++ x2)).bind fun bt127 => ((Given.SgParse.f (⟨#[118]⟩ : ByteArray)).bind fun bt129 => (if bt127.2 = true then (some false) else (some bt129.2)))) else (none)) else (none)))
end
def laws_FnSgNames.f (k : Nat) (a0 : ByteArray) (a1 : Int) (a2 : ByteArray) : Option (Bool) := if (a0.size : Int) > 2147483647 then (laws_FnSgNames.j0 k a0 a1 a2 true) else (laws_FnSgNames.j0 k a0 a1 a2 (decide ((a2.size : Int) > 2147483647)))
theorem laws_FnSgNames.mono_l : ∀ k, (∀ y0 y1 y2 y3, LeO (laws_FnSgNames.j0 k y0 y1 y2 y3) (laws_FnSgNames.j0 (k + 1) y0 y1 y2 y3)) ∧ (∀ y0 y1 y2 y3, LeO (laws_FnSgNames.j1 k y0 y1 y2 y3) (laws_FnSgNames.j1 (k + 1) y0 y1 y2 y3))
  | 0 => ⟨fun _ _ _ _ r h => by simp [laws_FnSgNames.j0] at h, fun _ _ _ _ r h => by simp [laws_FnSgNames.j1] at h⟩
  | k + 1 => by
    obtain ⟨ih0, ih1⟩ := laws_FnSgNames.mono_l k
    refine ⟨?_, ?_⟩
    · intro y0 y1 y2 y3
      unfold laws_FnSgNames.j0
      repeat' first
      | (with_reducible exact ih0 _ _ _ _)
      | (with_reducible exact ih1 _ _ _ _)
      | (with_reducible exact laws_sgLeft.mono _ _)
      | (with_reducible exact LeO.refl _)
      | (with_reducible exact LeO.none _)
      | (with_reducible refine LeO.ite ?_ ?_)
      | (with_reducible refine LeO.bind ?_ (fun _ => ?_))
      | exact ih0 _ _ _ _
      | exact ih1 _ _ _ _
      | exact laws_sgLeft.mono _ _
      | exact LeO.none _
      | refine LeO.ite ?_ ?_
      | refine LeO.bind ?_ (fun _ => ?_)
    · intro y0 y1 y2 y3
      unfold laws_FnSgNames.j1
      repeat' first
      | (with_reducible exact ih0 _ _ _ _)
      | (with_reducible exact ih1 _ _ _ _)
      | (with_reducible exact laws_sgLeft.mono _ _)
      | (with_reducible exact LeO.refl _)
      | (with_reducible exact LeO.none _)
      | (with_reducible refine LeO.ite ?_ ?_)
      | (with_reducible refine LeO.bind ?_ (fun _ => ?_))
      | exact ih0 _ _ _ _
      | exact ih1 _ _ _ _
      | exact laws_sgLeft.mono _ _
      | exact LeO.none _
      | refine LeO.ite ?_ ?_
      | refine LeO.bind ?_ (fun _ => ?_)
theorem laws_FnSgNames.mono : ∀ a0 a1 a2 k, LeO (laws_FnSgNames.f k a0 a1 a2) (laws_FnSgNames.f (k + 1) a0 a1 a2) := by
  intro a0 a1 a2 k
  obtain ⟨ih0, ih1⟩ := laws_FnSgNames.mono_l k
  unfold laws_FnSgNames.f
  repeat' first
      | (with_reducible exact ih0 _ _ _ _)
      | (with_reducible exact ih1 _ _ _ _)
      | (with_reducible exact laws_sgLeft.mono _ _)
      | (with_reducible exact LeO.refl _)
      | (with_reducible exact LeO.none _)
      | (with_reducible refine LeO.ite ?_ ?_)
      | (with_reducible refine LeO.bind ?_ (fun _ => ?_))
      | exact ih0 _ _ _ _
      | exact ih1 _ _ _ _
      | exact laws_sgLeft.mono _ _
      | exact LeO.none _
      | refine LeO.ite ?_ ?_
      | refine LeO.bind ?_ (fun _ => ?_)
set_option maxHeartbeats 8000000 in
set_option maxRecDepth 100000 in
theorem laws_FnSgNames.calls (k : Nat) (a0 : ByteArray) (a1 : Int) (a2 : ByteArray) (r : Bool) (w : World) (h : laws_FnSgNames.f k a0 a1 a2 = some r) :
    Calls Try.prog 6 #[.string a0, .int .u8 a1, .string a2] w fun e w' => e = .returned (.bool r) ∧ Below w.heap.size w w' := by
  have HB := Aside0.mk (Below.refl w.heap.size w)
  have H : (if (a0.size : Int) > 2147483647 then (laws_FnSgNames.j0 k a0 a1 a2 true) else (laws_FnSgNames.j0 k a0 a1 a2 (decide ((a2.size : Int) > 2147483647)))) = some r := h
  clear h
  have HC4 := Aside0.mk H
  clear H
  go_enter Try.func6, Try.ntmps6
  go_upto_region 1 with (fail)
  go_cut [18] (fun v18 wc => ∃ (kq : Nat) (x18_3 : Bool), v18 = .bool x18_3 ∧ Aside0 (laws_FnSgNames.j0 kq a0 a1 a2 x18_3 = some r) ∧ Aside0 (kq ≤ k) ∧ Aside0 (Below w.heap.size w wc))
  case first =>
    have H := HC4.out
    clear HC4
    by_cases c5 : (a0.size : Int) > 2147483647
    · rw [if_pos c5] at H
      have c5b0 : decide (2147483647 < (a0.size : Int)) = true := decide_eq_true c5
      have c5b1 : decide (2147483647 < a0.size) = true := decide_eq_true (by omega)
      clear c5
      (first | rw [c5b0] | (simp only [i64_w, i32_w]; rw [c5b0]) | skip)
      have H' := Aside0.mk H
      clear H
      go_wp2
      go_meet
      case rel => exact ⟨_, (true), (by first | rfl | (simp; done) | (simp [*]; done)), H', ⟨by first | omega | exact Nat.le_refl _⟩, ⟨by repeat (first | (with_reducible first | exact HB.out | apply below_alloc | apply pw_below_drewN | apply below_drew1) | exact HB.out)⟩⟩
    · rw [if_neg c5] at H
      have c5b0 : decide (2147483647 < (a0.size : Int)) = false := decide_eq_false c5
      have c5b1 : decide (2147483647 < a0.size) = false := decide_eq_false (by omega)
      clear c5
      (first | rw [c5b0] | (simp only [i64_w, i32_w]; rw [c5b0]) | skip)
      have H' := Aside0.mk H
      clear H
      go_wp2
      go_meet
      case rel => exact ⟨_, (decide ((a2.size : Int) > 2147483647)), (by first | rfl | (simp; done) | (simp [*]; done)), H', ⟨by first | omega | exact Nat.le_refl _⟩, ⟨by repeat (first | (with_reducible first | exact HB.out | apply below_alloc | apply pw_below_drewN | apply below_drew1) | exact HB.out)⟩⟩
  case rest =>
    clear HC4
    try clear p2
    try clear c5
    try clear c5b0
    try clear c5b1
    obtain ⟨kq, x18_3, rfl, HA, HJ3, HB⟩ := hcut
    cases kq with
    | zero => exact absurd HA.out (by simp [laws_FnSgNames.j0])
    | succ kj3 =>
      have H := HA.out
      clear HA
      simp only [laws_FnSgNames.j0] at H
      by_cases c6 : x18_3 = true
      · subst c6
        have H1 : (some true) = some r := by rw [if_pos rfl] at H; exact H
        clear H
        have H := H1
        clear H1
        obtain rfl := Option.some.inj H
        go_wp2
        go_ret
        exact ⟨by first | rfl | (simp [errW_none, errW_some] <;> rfl) | (simp [*, errW_none, errW_some] <;> rfl), by repeat (first | (with_reducible first | exact HB.out | apply below_alloc | apply pw_below_drewN | apply below_drew1) | exact HB.out)⟩
      · replace c6 := Bool.eq_false_iff.mpr c6
        subst c6
        have H1 : (if (wrap64 ((a0.size : Int) + (a2.size : Int))) > 4096 then (laws_FnSgNames.j1 kj3 a0 a1 a2 true) else ((spec_Basic.f a1).bind fun t119 => (if t119 = true then (laws_FnSgNames.j1 kj3 a0 a1 a2 true) else (if a1 = 118 then (laws_FnSgNames.j1 kj3 a0 a1 a2 true) else (if a1 = 97 then (laws_FnSgNames.j1 kj3 a0 a1 a2 true) else (if a1 = 40 then (laws_FnSgNames.j1 kj3 a0 a1 a2 true) else (if a1 = 41 then (laws_FnSgNames.j1 kj3 a0 a1 a2 true) else (if a1 = 123 then (laws_FnSgNames.j1 kj3 a0 a1 a2 true) else (if a1 = 125 then (laws_FnSgNames.j1 kj3 a0 a1 a2 true) else ((some (([a1] : List Int) : List Int)).bind fun y120 => (if a0.size + (strOfNums y120).size ≤ 9223372036854775807 then (if (a0 ++ (strOfNums y120)).size + a2.size ≤ 9223372036854775807 then ((laws_sgLeft.f kj3 ((a0 ++ (strOfNums y120)) ++ a2)).bind fun t123 => (laws_FnSgNames.j1 kj3 a0 a1 a2 t123)) else (none)) else (none)))))))))))) = some r := by rw [if_neg (show ¬ (false = true) by decide)] at H; exact H
        clear H
        have H := H1
        clear H1
        have HC7 := Aside0.mk H
        clear H
        go_upto_region 3 with (fail)
        go_cut [62] (fun v62 wc => ∃ (kq : Nat) (x62_6 : Bool), v62 = .bool x62_6 ∧ Aside0 (laws_FnSgNames.j1 kq a0 a1 a2 x62_6 = some r) ∧ Aside0 (kq ≤ kj3) ∧ Aside0 (Below w.heap.size w wc))
        case first =>
          have H := HC7.out
          clear HC7
          by_cases c8 : (wrap64 ((a0.size : Int) + (a2.size : Int))) > 4096
          · rw [if_pos c8] at H
            have c8b0 : decide (4096 < (wrap64 ((a0.size : Int) + (a2.size : Int)))) = true := decide_eq_true c8
            clear c8
            (first | rw [c8b0] | (simp only [i64_w, i32_w]; rw [c8b0]) | skip)
            have H' := Aside0.mk H
            clear H
            go_wp2
            go_meet
            case rel => exact ⟨_, (true), (by first | rfl | (simp; done) | (simp [*]; done)), H', ⟨by have := HJ3.out; first | omega | exact Nat.le_refl _⟩, ⟨by repeat (first | (with_reducible first | exact HB.out | apply below_alloc | apply pw_below_drewN | apply below_drew1) | exact HB.out)⟩⟩
          · rw [if_neg c8] at H
            have c8b0 : decide (4096 < (wrap64 ((a0.size : Int) + (a2.size : Int)))) = false := decide_eq_false c8
            clear c8
            (first | rw [c8b0] | (simp only [i64_w, i32_w]; rw [c8b0]) | skip)
            replace H := Option.bind_eq_some_iff.mp H
            obtain ⟨t119, A90, H⟩ := H
            replace H : (if t119 = true then (laws_FnSgNames.j1 kj3 a0 a1 a2 true) else (if a1 = 118 then (laws_FnSgNames.j1 kj3 a0 a1 a2 true) else (if a1 = 97 then (laws_FnSgNames.j1 kj3 a0 a1 a2 true) else (if a1 = 40 then (laws_FnSgNames.j1 kj3 a0 a1 a2 true) else (if a1 = 41 then (laws_FnSgNames.j1 kj3 a0 a1 a2 true) else (if a1 = 123 then (laws_FnSgNames.j1 kj3 a0 a1 a2 true) else (if a1 = 125 then (laws_FnSgNames.j1 kj3 a0 a1 a2 true) else ((some (([a1] : List Int) : List Int)).bind fun y120 => (if a0.size + (strOfNums y120).size ≤ 9223372036854775807 then (if (a0 ++ (strOfNums y120)).size + a2.size ≤ 9223372036854775807 then ((laws_sgLeft.f kj3 ((a0 ++ (strOfNums y120)) ++ a2)).bind fun t123 => (laws_FnSgNames.j1 kj3 a0 a1 a2 t123)) else (none)) else (none)))))))))) = some r := H
            have A9 := Aside0.mk A90
            clear A90
            by_cases c10 : t119 = true
            · subst c10
              have H1 : (laws_FnSgNames.j1 kj3 a0 a1 a2 true) = some r := by rw [if_pos rfl] at H; exact H
              clear H
              have H := H1
              clear H1
              have H' := Aside0.mk H
              clear H
              go_wp2_with (first | (go_at_call 13; (with_reducible refine (spec_Basic.calls a1 true _ A9.out).mono ?_); rintro e w' ⟨rfl, ⟨nd, rfl⟩⟩))
              go_meet
              case rel => exact ⟨_, (true), (by first | rfl | (simp; done) | (simp [*]; done)), H', ⟨by have := HJ3.out; first | omega | exact Nat.le_refl _⟩, ⟨by repeat (first | (with_reducible first | exact HB.out | apply below_alloc | apply pw_below_drewN | apply below_drew1) | exact HB.out)⟩⟩
            · replace c10 := Bool.eq_false_iff.mpr c10
              subst c10
              have H1 : (if a1 = 118 then (laws_FnSgNames.j1 kj3 a0 a1 a2 true) else (if a1 = 97 then (laws_FnSgNames.j1 kj3 a0 a1 a2 true) else (if a1 = 40 then (laws_FnSgNames.j1 kj3 a0 a1 a2 true) else (if a1 = 41 then (laws_FnSgNames.j1 kj3 a0 a1 a2 true) else (if a1 = 123 then (laws_FnSgNames.j1 kj3 a0 a1 a2 true) else (if a1 = 125 then (laws_FnSgNames.j1 kj3 a0 a1 a2 true) else ((some (([a1] : List Int) : List Int)).bind fun y120 => (if a0.size + (strOfNums y120).size ≤ 9223372036854775807 then (if (a0 ++ (strOfNums y120)).size + a2.size ≤ 9223372036854775807 then ((laws_sgLeft.f kj3 ((a0 ++ (strOfNums y120)) ++ a2)).bind fun t123 => (laws_FnSgNames.j1 kj3 a0 a1 a2 t123)) else (none)) else (none))))))))) = some r := by rw [if_neg (show ¬ (false = true) by decide)] at H; exact H
              clear H
              have H := H1
              clear H1
              by_cases c11 : a1 = 118
              · rw [if_pos c11] at H
                have c11b0 : (a1 == 118) = true := beq_iff_eq.mpr c11
                have c11b1 : (a1 != 118) = false := bne_eq_false_iff_eq.mpr c11
                clear c11
                have H' := Aside0.mk H
                clear H
                go_wp2_with (first | (go_at_call 13; (with_reducible refine (spec_Basic.calls a1 false _ A9.out).mono ?_); rintro e w' ⟨rfl, ⟨nd, rfl⟩⟩))
                go_meet
                case rel => exact ⟨_, (true), (by first | rfl | (simp; done) | (simp [*]; done)), H', ⟨by have := HJ3.out; first | omega | exact Nat.le_refl _⟩, ⟨by repeat (first | (with_reducible first | exact HB.out | apply below_alloc | apply pw_below_drewN | apply below_drew1) | exact HB.out)⟩⟩
              · rw [if_neg c11] at H
                have c11b0 : (a1 == 118) = false := beq_eq_false_iff_ne.mpr c11
                have c11b1 : (a1 != 118) = true := bne_iff_ne.mpr c11
                by_cases c12 : a1 = 97
                · rw [if_pos c12] at H
                  have c12b0 : (a1 == 97) = true := beq_iff_eq.mpr c12
                  have c12b1 : (a1 != 97) = false := bne_eq_false_iff_eq.mpr c12
                  clear c12
                  have H' := Aside0.mk H
                  clear H
                  go_wp2_with (first | (go_at_call 13; (with_reducible refine (spec_Basic.calls a1 false _ A9.out).mono ?_); rintro e w' ⟨rfl, ⟨nd, rfl⟩⟩))
                  go_meet
                  case rel => exact ⟨_, (true), (by first | rfl | (simp; done) | (simp [*]; done)), H', ⟨by have := HJ3.out; first | omega | exact Nat.le_refl _⟩, ⟨by repeat (first | (with_reducible first | exact HB.out | apply below_alloc | apply pw_below_drewN | apply below_drew1) | exact HB.out)⟩⟩
                · rw [if_neg c12] at H
                  have c12b0 : (a1 == 97) = false := beq_eq_false_iff_ne.mpr c12
                  have c12b1 : (a1 != 97) = true := bne_iff_ne.mpr c12
                  by_cases c13 : a1 = 40
                  · rw [if_pos c13] at H
                    have c13b0 : (a1 == 40) = true := beq_iff_eq.mpr c13
                    have c13b1 : (a1 != 40) = false := bne_eq_false_iff_eq.mpr c13
                    clear c13
                    have H' := Aside0.mk H
                    clear H
                    go_wp2_with (first | (go_at_call 13; (with_reducible refine (spec_Basic.calls a1 false _ A9.out).mono ?_); rintro e w' ⟨rfl, ⟨nd, rfl⟩⟩))
                    go_meet
                    case rel => exact ⟨_, (true), (by first | rfl | (simp; done) | (simp [*]; done)), H', ⟨by have := HJ3.out; first | omega | exact Nat.le_refl _⟩, ⟨by repeat (first | (with_reducible first | exact HB.out | apply below_alloc | apply pw_below_drewN | apply below_drew1) | exact HB.out)⟩⟩
                  · rw [if_neg c13] at H
                    have c13b0 : (a1 == 40) = false := beq_eq_false_iff_ne.mpr c13
                    have c13b1 : (a1 != 40) = true := bne_iff_ne.mpr c13
                    by_cases c14 : a1 = 41
                    · rw [if_pos c14] at H
                      have c14b0 : (a1 == 41) = true := beq_iff_eq.mpr c14
                      have c14b1 : (a1 != 41) = false := bne_eq_false_iff_eq.mpr c14
                      clear c14
                      have H' := Aside0.mk H
                      clear H
                      go_wp2_with (first | (go_at_call 13; (with_reducible refine (spec_Basic.calls a1 false _ A9.out).mono ?_); rintro e w' ⟨rfl, ⟨nd, rfl⟩⟩))
                      go_meet
                      case rel => exact ⟨_, (true), (by first | rfl | (simp; done) | (simp [*]; done)), H', ⟨by have := HJ3.out; first | omega | exact Nat.le_refl _⟩, ⟨by repeat (first | (with_reducible first | exact HB.out | apply below_alloc | apply pw_below_drewN | apply below_drew1) | exact HB.out)⟩⟩
                    · rw [if_neg c14] at H
                      have c14b0 : (a1 == 41) = false := beq_eq_false_iff_ne.mpr c14
                      have c14b1 : (a1 != 41) = true := bne_iff_ne.mpr c14
                      by_cases c15 : a1 = 123
                      · rw [if_pos c15] at H
                        have c15b0 : (a1 == 123) = true := beq_iff_eq.mpr c15
                        have c15b1 : (a1 != 123) = false := bne_eq_false_iff_eq.mpr c15
                        clear c15
                        have H' := Aside0.mk H
                        clear H
                        go_wp2_with (first | (go_at_call 13; (with_reducible refine (spec_Basic.calls a1 false _ A9.out).mono ?_); rintro e w' ⟨rfl, ⟨nd, rfl⟩⟩))
                        go_meet
                        case rel => exact ⟨_, (true), (by first | rfl | (simp; done) | (simp [*]; done)), H', ⟨by have := HJ3.out; first | omega | exact Nat.le_refl _⟩, ⟨by repeat (first | (with_reducible first | exact HB.out | apply below_alloc | apply pw_below_drewN | apply below_drew1) | exact HB.out)⟩⟩
                      · rw [if_neg c15] at H
                        have c15b0 : (a1 == 123) = false := beq_eq_false_iff_ne.mpr c15
                        have c15b1 : (a1 != 123) = true := bne_iff_ne.mpr c15
                        by_cases c16 : a1 = 125
                        · rw [if_pos c16] at H
                          have c16b0 : (a1 == 125) = true := beq_iff_eq.mpr c16
                          have c16b1 : (a1 != 125) = false := bne_eq_false_iff_eq.mpr c16
                          clear c16
                          have H' := Aside0.mk H
                          clear H
                          go_wp2_with (first | (go_at_call 13; (with_reducible refine (spec_Basic.calls a1 false _ A9.out).mono ?_); rintro e w' ⟨rfl, ⟨nd, rfl⟩⟩))
                          go_meet
                          case rel => exact ⟨_, (true), (by first | rfl | (simp; done) | (simp [*]; done)), H', ⟨by have := HJ3.out; first | omega | exact Nat.le_refl _⟩, ⟨by repeat (first | (with_reducible first | exact HB.out | apply below_alloc | apply pw_below_drewN | apply below_drew1) | exact HB.out)⟩⟩
                        · rw [if_neg c16] at H
                          have c16b0 : (a1 == 125) = false := beq_eq_false_iff_ne.mpr c16
                          have c16b1 : (a1 != 125) = true := bne_iff_ne.mpr c16
                          obtain ⟨y120, hy120⟩ : ∃ y_ : List Int, y_ = (([a1] : List Int)) := ⟨_, rfl⟩
                          replace H : (if a0.size + (strOfNums y120).size ≤ 9223372036854775807 then (if (a0 ++ (strOfNums y120)).size + a2.size ≤ 9223372036854775807 then ((laws_sgLeft.f kj3 ((a0 ++ (strOfNums y120)) ++ a2)).bind fun t123 => (laws_FnSgNames.j1 kj3 a0 a1 a2 t123)) else (none)) else (none)) = some r := by first | (rw [hy120]; with_reducible exact H) | (have H2_ := (Option.bind_some _ _).symm.trans H; rw [hy120]; with_reducible exact H2_) | (have H2_ := (Option.bind_some _ _).symm.trans H; with_reducible exact H2_) | with_reducible exact H | (rw [hy120]; exact H) | exact H
                          have Ny120 := Aside0.mk hy120
                          clear hy120
                          by_cases c17 : a0.size + (strOfNums y120).size ≤ 9223372036854775807
                          · rw [if_pos c17] at H
                            have c17b0 := eq_true c17
                            have c17b1 : decide (a0.size + (strOfNums y120).size ≤ 9223372036854775807) = true := decide_eq_true c17
                            try have c17b2 : (9223372036854775807 < a0.size + (strOfNums y120).size) = False := eq_false (Nat.not_lt.2 c17)
                            by_cases c18 : (a0 ++ (strOfNums y120)).size + a2.size ≤ 9223372036854775807
                            · rw [if_pos c18] at H
                              have c18b0 := eq_true c18
                              have c18b1 : decide ((a0 ++ (strOfNums y120)).size + a2.size ≤ 9223372036854775807) = true := decide_eq_true c18
                              try have c18b2 : (9223372036854775807 < (a0 ++ (strOfNums y120)).size + a2.size) = False := eq_false (Nat.not_lt.2 c18)
                              replace H := Option.bind_eq_some_iff.mp H
                              obtain ⟨t123, A190, H⟩ := H
                              replace H : (laws_FnSgNames.j1 kj3 a0 a1 a2 t123) = some r := H
                              have A19 := Aside0.mk A190
                              clear A190
                              have H' := Aside0.mk H
                              clear H
                              go_wp2_with (first | (go_at_call 13; (with_reducible refine (spec_Basic.calls a1 false _ A9.out).mono ?_); rintro e w' ⟨rfl, ⟨nd, rfl⟩⟩) | ((with_reducible refine gate_dst (N := 56) rfl ?_); (try (refine gate_guard (by rfl) ?_; dsimp only)); refine Kd.R_lit (Kd.int .u8) _ 5 ?hg (N := 56) ?hd (xs := ([a1] : List Int)) (inner := [.int .u8 a1]) (ok := fun _ => True) (okp := fun _ => True) ?hr ?hp (fun _ hk => hk) trivial (Below.refl _ _) (Nat.le_refl _) (by simp) ?_; (case hd => rfl); (case hg => rfl); (case hr => first | (go_simp; done) | (go_simp; rfl)); (case hp => exact (Reps.one (show Kd.M (Kd.int .u8) _ _ _ a1 [.int .u8 a1] from rfl) (Reps.none _ _))); intro v121 w20 ho21 hb hg_ hnew_; clear hg_ hnew_; (first | rw [← Ny120.out] at ho21 | (simp only [Int.reduceToNat] at ho21; rw [← Ny120.out] at ho21)); have n0_ := Aside0.mk (Kd.R_lower ho21 (below_size (by repeat (first | (with_reducible first | exact HB.out | apply below_alloc | apply pw_below_drewN | apply below_drew1) | exact HB.out)))); have n1_ := Aside0.mk (below_step (by repeat (first | (with_reducible first | exact HB.out | apply below_alloc | apply pw_below_drewN | apply below_drew1) | exact HB.out)) hb); clear HB; have HO122 := n0_; have HB := n1_; clear n0_ n1_; clear hb ho21; have hcv22 := own_string (P := Try.prog) Try.underlying28 Try.underlying5 Try.underlying9 (Kd.own_of_R HO122.out)) | (go_at_call 9; (with_reducible refine (laws_sgLeft.calls kj3 ((a0 ++ (strOfNums y120)) ++ a2) t123 _ A19.out).mono ?_); rintro e w23 ⟨rfl, hb⟩; have n0_ := Aside0.mk (Kd.R_below (by (with_reducible repeat (first | apply Kd.R_alloc | apply Kd.R_drewN | apply Kd.R_drew)); exact HO122.out) hb); have n1_ := Aside0.mk (below_step (by repeat (first | (with_reducible first | exact HB.out | apply below_alloc | apply pw_below_drewN | apply below_drew1) | exact HB.out)) hb); clear HO122; clear HB; have HO122 := n0_; have HB := n1_; clear n0_ n1_; (try clear hb); (try clear hb2); (try clear hk); (try clear hi)))
                              go_meet
                              case rel => exact ⟨_, (t123), (by first | rfl | (simp; done) | (simp [*]; done)), H', ⟨by have := HJ3.out; first | omega | exact Nat.le_refl _⟩, ⟨by repeat (first | (with_reducible first | exact HB.out | apply below_alloc | apply pw_below_drewN | apply below_drew1) | exact HB.out)⟩⟩
                            · rw [if_neg c18] at H
                              exact absurd H (by simp)
                          · rw [if_neg c17] at H
                            exact absurd H (by simp)
        case rest =>
          clear HC7
          try clear c1
          try clear p2
          try clear hcv2
          try clear c5
          try clear c5b0
          try clear c5b1
          try clear c6
          try clear p6
          try clear c8
          try clear c8b0
          try clear c10
          try clear c11
          try clear c11b0
          try clear c11b1
          try clear c12
          try clear c12b0
          try clear c12b1
          try clear c13
          try clear c13b0
          try clear c13b1
          try clear c14
          try clear c14b0
          try clear c14b1
          try clear c15
          try clear c15b0
          try clear c15b1
          try clear c16
          try clear c16b0
          try clear c16b1
          try clear c17
          try clear c17b0
          try clear c17b1
          try clear c17b2
          try clear c18
          try clear c18b0
          try clear c18b1
          try clear c18b2
          try clear hcv22
          try clear p2
          obtain ⟨kq, x62_6, rfl, HA, HJ6, HB⟩ := hcut
          cases kq with
          | zero => exact absurd HA.out (by simp [laws_FnSgNames.j1])
          | succ kj6 =>
            have H := HA.out
            clear HA
            simp only [laws_FnSgNames.j1] at H
            by_cases c24 : x62_6 = true
            · subst c24
              have H1 : (some true) = some r := by rw [if_pos rfl] at H; exact H
              clear H
              have H := H1
              clear H1
              obtain rfl := Option.some.inj H
              go_wp2
              go_ret
              exact ⟨by first | rfl | (simp [errW_none, errW_some] <;> rfl) | (simp [*, errW_none, errW_some] <;> rfl), by repeat (first | (with_reducible first | exact HB.out | apply below_alloc | apply pw_below_drewN | apply below_drew1) | exact HB.out)⟩
            · replace c24 := Bool.eq_false_iff.mpr c24
              subst c24
              have H1 : ((some (([a1] : List Int) : List Int)).bind fun y124 => (if a0.size + (strOfNums y124).size ≤ 9223372036854775807 then (if (a0 ++ (strOfNums y124)).size + a2.size ≤ 9223372036854775807 then ((Given.SgParse.f ((a0 ++ (strOfNums y124)) ++ a2)).bind fun bt127 => ((Given.SgParse.f (⟨#[118]⟩ : ByteArray)).bind fun bt129 => (if bt127.2 = true then (some false) else (some bt129.2)))) else (none)) else (none))) = some r := by rw [if_neg (show ¬ (false = true) by decide)] at H; exact H
              clear H
              have H := H1
              clear H1
              obtain ⟨y124, hy124⟩ : ∃ y_ : List Int, y_ = (([a1] : List Int)) := ⟨_, rfl⟩
              replace H : (if a0.size + (strOfNums y124).size ≤ 9223372036854775807 then (if (a0 ++ (strOfNums y124)).size + a2.size ≤ 9223372036854775807 then ((Given.SgParse.f ((a0 ++ (strOfNums y124)) ++ a2)).bind fun bt127 => ((Given.SgParse.f (⟨#[118]⟩ : ByteArray)).bind fun bt129 => (if bt127.2 = true then (some false) else (some bt129.2)))) else (none)) else (none)) = some r := by first | (rw [hy124]; with_reducible exact H) | (have H2_ := (Option.bind_some _ _).symm.trans H; rw [hy124]; with_reducible exact H2_) | (have H2_ := (Option.bind_some _ _).symm.trans H; with_reducible exact H2_) | with_reducible exact H | (rw [hy124]; exact H) | exact H
              have Ny124 := Aside0.mk hy124
              clear hy124
              by_cases c25 : a0.size + (strOfNums y124).size ≤ 9223372036854775807
              · rw [if_pos c25] at H
                have c25b0 := eq_true c25
                have c25b1 : decide (a0.size + (strOfNums y124).size ≤ 9223372036854775807) = true := decide_eq_true c25
                try have c25b2 : (9223372036854775807 < a0.size + (strOfNums y124).size) = False := eq_false (Nat.not_lt.2 c25)
                by_cases c26 : (a0 ++ (strOfNums y124)).size + a2.size ≤ 9223372036854775807
                · rw [if_pos c26] at H
                  have c26b0 := eq_true c26
                  have c26b1 : decide ((a0 ++ (strOfNums y124)).size + a2.size ≤ 9223372036854775807) = true := decide_eq_true c26
                  try have c26b2 : (9223372036854775807 < (a0 ++ (strOfNums y124)).size + a2.size) = False := eq_false (Nat.not_lt.2 c26)
                  replace H := Option.bind_eq_some_iff.mp H
                  obtain ⟨⟨t127, t128⟩, A270, H⟩ := H
                  replace H : ((Given.SgParse.f (⟨#[118]⟩ : ByteArray)).bind fun bt129 => (if t128 = true then (some false) else (some bt129.2))) = some r := H
                  have A27 := Aside0.mk A270
                  clear A270
                  replace H := Option.bind_eq_some_iff.mp H
                  obtain ⟨⟨t129, t130⟩, A280, H⟩ := H
                  replace H : (if t128 = true then (some false) else (some t130)) = some r := H
                  have A28 := Aside0.mk A280
                  clear A280
                  by_cases c29 : t128 = true
                  · subst c29
                    have H1 : (some false) = some r := by rw [if_pos rfl] at H; exact H
                    clear H
                    have H := H1
                    clear H1
                    obtain rfl := Option.some.inj H
                    go_wp2_with (first | ((with_reducible refine gate_dst (N := 66) rfl ?_); (try (refine gate_guard (by rfl) ?_; dsimp only)); refine Kd.R_lit (Kd.int .u8) _ 5 ?hg (N := 66) ?hd (xs := ([a1] : List Int)) (inner := [.int .u8 a1]) (ok := fun _ => True) (okp := fun _ => True) ?hr ?hp (fun _ hk => hk) trivial (Below.refl _ _) (Nat.le_refl _) (by simp) ?_; (case hd => rfl); (case hg => rfl); (case hr => first | (go_simp; done) | (go_simp; rfl)); (case hp => exact (Reps.one (show Kd.M (Kd.int .u8) _ _ _ a1 [.int .u8 a1] from rfl) (Reps.none _ _))); intro v125 w30 ho31 hb hg_ hnew_; clear hg_ hnew_; (first | rw [← Ny124.out] at ho31 | (simp only [Int.reduceToNat] at ho31; rw [← Ny124.out] at ho31)); have n0_ := Aside0.mk (Kd.R_lower ho31 (below_size (by repeat (first | (with_reducible first | exact HB.out | apply below_alloc | apply pw_below_drewN | apply below_drew1) | exact HB.out)))); have n1_ := Aside0.mk (below_step (by repeat (first | (with_reducible first | exact HB.out | apply below_alloc | apply pw_below_drewN | apply below_drew1) | exact HB.out)) hb); clear HB; have HO126 := n0_; have HB := n1_; clear n0_ n1_; clear hb ho31; have hcv32 := own_string (P := Try.prog) Try.underlying28 Try.underlying5 Try.underlying9 (Kd.own_of_R HO126.out)) | ((with_reducible refine gate_callee (f := 14) rfl ?_); refine goesL_ (some 71) rfl rfl Try.func14 (by kernel_rfl) rfl #[.string ((a0 ++ (strOfNums y124)) ++ a2)] rfl (by (try simp only [List.map_toArray, List.map_cons, List.map_nil]); first | done | rfl | (simp only [List.length_drop, List.length_take]; rfl)) ?_; (with_reducible refine (Given.SgParse.calls ((a0 ++ (strOfNums y124)) ++ a2) t127 true _ A27.out).mono ?_); rintro e w33 ⟨rfl, hb⟩; refine ⟨_, rfl, ?_⟩; have n0_ := Aside0.mk (Kd.R_below (by (with_reducible repeat (first | apply Kd.R_alloc | apply Kd.R_drewN | apply Kd.R_drew)); exact HO126.out) hb); have n1_ := Aside0.mk (below_step (by repeat (first | (with_reducible first | exact HB.out | apply below_alloc | apply pw_below_drewN | apply below_drew1) | exact HB.out)) hb); clear HO126; clear HB; have HO126 := n0_; have HB := n1_; clear n0_ n1_; (try clear hb); (try clear hb2); (try clear hk); (try clear hi)) | ((with_reducible refine gate_callee (f := 14) rfl ?_); refine goesL_ (some 75) rfl rfl Try.func14 (by kernel_rfl) rfl #[.string (⟨#[118]⟩ : ByteArray)] rfl (by (try simp only [List.map_toArray, List.map_cons, List.map_nil]); first | done | rfl | (simp only [List.length_drop, List.length_take]; rfl)) ?_; (with_reducible refine (Given.SgParse.calls (⟨#[118]⟩ : ByteArray) t129 t130 _ A28.out).mono ?_); rintro e w34 ⟨rfl, hb⟩; refine ⟨_, rfl, ?_⟩; have n0_ := Aside0.mk (Kd.R_below (by (with_reducible repeat (first | apply Kd.R_alloc | apply Kd.R_drewN | apply Kd.R_drew)); exact HO126.out) hb); have n1_ := Aside0.mk (below_step (by repeat (first | (with_reducible first | exact HB.out | apply below_alloc | apply pw_below_drewN | apply below_drew1) | exact HB.out)) hb); clear HO126; clear HB; have HO126 := n0_; have HB := n1_; clear n0_ n1_; (try clear hb); (try clear hb2); (try clear hk); (try clear hi)))
                    go_ret
                    exact ⟨by first | rfl | (simp [errW_none, errW_some] <;> rfl) | (simp [*, errW_none, errW_some] <;> rfl), by repeat (first | (with_reducible first | exact HB.out | apply below_alloc | apply pw_below_drewN | apply below_drew1) | exact HB.out)⟩
                  · replace c29 := Bool.eq_false_iff.mpr c29
                    subst c29
                    have H1 : (some t130) = some r := by rw [if_neg (show ¬ (false = true) by decide)] at H; exact H
                    clear H
                    have H := H1
                    clear H1
                    obtain rfl := Option.some.inj H
                    go_wp2_with (first | ((with_reducible refine gate_dst (N := 66) rfl ?_); (try (refine gate_guard (by rfl) ?_; dsimp only)); refine Kd.R_lit (Kd.int .u8) _ 5 ?hg (N := 66) ?hd (xs := ([a1] : List Int)) (inner := [.int .u8 a1]) (ok := fun _ => True) (okp := fun _ => True) ?hr ?hp (fun _ hk => hk) trivial (Below.refl _ _) (Nat.le_refl _) (by simp) ?_; (case hd => rfl); (case hg => rfl); (case hr => first | (go_simp; done) | (go_simp; rfl)); (case hp => exact (Reps.one (show Kd.M (Kd.int .u8) _ _ _ a1 [.int .u8 a1] from rfl) (Reps.none _ _))); intro v125 w35 ho36 hb hg_ hnew_; clear hg_ hnew_; (first | rw [← Ny124.out] at ho36 | (simp only [Int.reduceToNat] at ho36; rw [← Ny124.out] at ho36)); have n0_ := Aside0.mk (Kd.R_lower ho36 (below_size (by repeat (first | (with_reducible first | exact HB.out | apply below_alloc | apply pw_below_drewN | apply below_drew1) | exact HB.out)))); have n1_ := Aside0.mk (below_step (by repeat (first | (with_reducible first | exact HB.out | apply below_alloc | apply pw_below_drewN | apply below_drew1) | exact HB.out)) hb); clear HB; have HO126 := n0_; have HB := n1_; clear n0_ n1_; clear hb ho36; have hcv37 := own_string (P := Try.prog) Try.underlying28 Try.underlying5 Try.underlying9 (Kd.own_of_R HO126.out)) | ((with_reducible refine gate_callee (f := 14) rfl ?_); refine goesL_ (some 71) rfl rfl Try.func14 (by kernel_rfl) rfl #[.string ((a0 ++ (strOfNums y124)) ++ a2)] rfl (by (try simp only [List.map_toArray, List.map_cons, List.map_nil]); first | done | rfl | (simp only [List.length_drop, List.length_take]; rfl)) ?_; (with_reducible refine (Given.SgParse.calls ((a0 ++ (strOfNums y124)) ++ a2) t127 false _ A27.out).mono ?_); rintro e w38 ⟨rfl, hb⟩; refine ⟨_, rfl, ?_⟩; have n0_ := Aside0.mk (Kd.R_below (by (with_reducible repeat (first | apply Kd.R_alloc | apply Kd.R_drewN | apply Kd.R_drew)); exact HO126.out) hb); have n1_ := Aside0.mk (below_step (by repeat (first | (with_reducible first | exact HB.out | apply below_alloc | apply pw_below_drewN | apply below_drew1) | exact HB.out)) hb); clear HO126; clear HB; have HO126 := n0_; have HB := n1_; clear n0_ n1_; (try clear hb); (try clear hb2); (try clear hk); (try clear hi)) | ((with_reducible refine gate_callee (f := 14) rfl ?_); refine goesL_ (some 75) rfl rfl Try.func14 (by kernel_rfl) rfl #[.string (⟨#[118]⟩ : ByteArray)] rfl (by (try simp only [List.map_toArray, List.map_cons, List.map_nil]); first | done | rfl | (simp only [List.length_drop, List.length_take]; rfl)) ?_; (with_reducible refine (Given.SgParse.calls (⟨#[118]⟩ : ByteArray) t129 t130 _ A28.out).mono ?_); rintro e w39 ⟨rfl, hb⟩; refine ⟨_, rfl, ?_⟩; have n0_ := Aside0.mk (Kd.R_below (by (with_reducible repeat (first | apply Kd.R_alloc | apply Kd.R_drewN | apply Kd.R_drew)); exact HO126.out) hb); have n1_ := Aside0.mk (below_step (by repeat (first | (with_reducible first | exact HB.out | apply below_alloc | apply pw_below_drewN | apply below_drew1) | exact HB.out)) hb); clear HO126; clear HB; have HO126 := n0_; have HB := n1_; clear n0_ n1_; (try clear hb); (try clear hb2); (try clear hk); (try clear hi)))
                    go_ret
                    exact ⟨by first | rfl | (simp [errW_none, errW_some] <;> rfl) | (simp [*, errW_none, errW_some] <;> rfl), by repeat (first | (with_reducible first | exact HB.out | apply below_alloc | apply pw_below_drewN | apply below_drew1) | exact HB.out)⟩
                · rw [if_neg c26] at H
                  exact absurd H (by simp)
              · rw [if_neg c25] at H
                exact absurd H (by simp)

/-- THE ONE PURE STATEMENT of laws_FnSgNames: yours. -/
def laws_FnSgNames.Pure : Prop := ∀ (a0 : ByteArray) (a1 : Int) (a2 : ByteArray), a0.size ≤ 140737488351232 → (Lit.int .u8 a1).wf = true → a2.size ≤ 140737488351232 → ∃ k, laws_FnSgNames.f k a0 a1 a2 = some true
theorem laws_FnSgNames.walk (P : laws_FnSgNames.Pure) (a0 : ByteArray) (a1 : Int) (a2 : ByteArray) (w : World) (w0 : a0.size ≤ 140737488351232) (w1 : (Lit.int .u8 a1).wf = true) (w2 : a2.size ≤ 140737488351232) :
    Calls Try.prog 6 #[.string a0, .int .u8 a1, .string a2] w fun e w' => e = .returned (.bool true) ∧ Below w.heap.size w w' := by
  obtain ⟨k, h⟩ := P a0 a1 a2 w0 w1 w2
  refine (laws_FnSgNames.calls k a0 a1 a2 true w h).mono ?_
  rintro e w' ⟨rfl, hd⟩
  exact ⟨rfl, hd⟩

end Go.Proofs.Ythkblpbabcibcaa.PSg

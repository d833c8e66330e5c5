-- Written by a program of this session (wip/tools/myprint.py) for this claim.
import Derived.Test.YthkmgbfobobpdaaPNmx0
import Derived.Test.YthkmgbfobobpdaaPNmx1
import Derived.Test.YthkmgbfobobpdaaPNmx2
namespace Go.Proofs.Ythkmgbfobobpdaa.PNm
open Go.RowKit Go.Proofs.YthkmgbfobobpdaaW.PrintWords Go.Proofs.YthkmgbfobobpdaaW.PrintLast Go.Proofs.YthkmgbfobobpdaaW.PrintMore
attribute [local go_sem] max2_int min2_int max_two min_two max_three min_three max_four min_four   -- for this text's walks alone
set_option linter.unusedVariables false
set_option linter.unusedSimpArgs false

/-! ### laws_FnNmPaths: function 12 -/
mutual
def laws_FnNmPaths.j0 : Nat → ByteArray → ByteArray → Bool → Option (Bool)
  | 0, _, _, _ => none
  | k + 1, x0, x1, x12 => if x12 = true then (some true) else (if (x0.size : Int) > 2048 then (laws_FnNmPaths.j1 k x0 x1 true) else (if (x1.size : Int) > 2048 then (laws_FnNmPaths.j1 k x0 x1 true) else ((spec_ValidPath.f k x0).bind fun t121 => (if t121 = true then ((spec_ValidPath.f k x1).bind fun t122 => (if t122 = true then (if x0.toList = ([47] : List UInt8) then (laws_FnNmPaths.j1 k x0 x1 true) else (laws_FnNmPaths.j1 k x0 x1 (x1.toList == ([47] : List UInt8)))) else (laws_FnNmPaths.j1 k x0 x1 true))) else (laws_FnNmPaths.j1 k x0 x1 true)))))
def laws_FnNmPaths.j1 : Nat → ByteArray → ByteArray → Bool → Option (Bool)
  | 0, _, _, _ => none
  | k + 1, x0, x1, x38 => if x38 = true then (some true) else (if x0.size + x1.size ≤ 9223372036854775807 then ((impl_NmPath.f (x0 ++ x1)).bind fun t123 => (if t123 = true then (if x0.size + 1 ≤ 9223372036854775807 then ((impl_NmPath.f (x0 ++ (⟨#[47]⟩ : ByteArray))).bind fun t124 => (if t124 = true then (some false) else (if 1 ≤ (x0.size : Int) then ((impl_NmPath.f (x0.extract 1 x0.size)).bind fun t125 => (if t125 = true then (some false) else (if (x0 ++ (⟨#[47]⟩ : ByteArray)).size + x1.size ≤ 9223372036854775807 then ((impl_NmPath.f ((x0 ++ (⟨#[47]⟩ : ByteArray)) ++ x1)).bind fun t126 => (some (!t126))) else (none)))) else (none)))) else (none)) else (some false))) else (none))
end
def laws_FnNmPaths.f (k : Nat) (a0 : ByteArray) (a1 : ByteArray) : Option (Bool) := if (a0.size : Int) > 2147483647 then (laws_FnNmPaths.j0 k a0 a1 true) else (laws_FnNmPaths.j0 k a0 a1 (decide ((a1.size : Int) > 2147483647)))
theorem laws_FnNmPaths.mono_l : ∀ k, (∀ y0 y1 y2, LeO (laws_FnNmPaths.j0 k y0 y1 y2) (laws_FnNmPaths.j0 (k + 1) y0 y1 y2)) ∧ (∀ y0 y1 y2, LeO (laws_FnNmPaths.j1 k y0 y1 y2) (laws_FnNmPaths.j1 (k + 1) y0 y1 y2))
  | 0 => ⟨fun _ _ _ r h => by simp [laws_FnNmPaths.j0] at h, fun _ _ _ r h => by simp [laws_FnNmPaths.j1] at h⟩
  | k + 1 => by
    obtain ⟨ih0, ih1⟩ := laws_FnNmPaths.mono_l k
    refine ⟨?_, ?_⟩
    · intro y0 y1 y2
      unfold laws_FnNmPaths.j0
      repeat' first
      | (with_reducible exact ih0 _ _ _)
      | (with_reducible exact ih1 _ _ _)
      | (with_reducible exact spec_ValidPath.mono _ _)
      | (with_reducible exact LeO.refl _)
      | (with_reducible exact LeO.none _)
      | (with_reducible refine LeO.ite ?_ ?_)
      | (with_reducible refine LeO.bind ?_ (fun _ => ?_))
      | exact ih0 _ _ _
      | exact ih1 _ _ _
      | exact spec_ValidPath.mono _ _
      | exact LeO.none _
      | refine LeO.ite ?_ ?_
      | refine LeO.bind ?_ (fun _ => ?_)
    · intro y0 y1 y2
      unfold laws_FnNmPaths.j1
      repeat' first
      | (with_reducible exact ih0 _ _ _)
      | (with_reducible exact ih1 _ _ _)
      | (with_reducible exact spec_ValidPath.mono _ _)
      | (with_reducible exact LeO.refl _)
      | (with_reducible exact LeO.none _)
      | (with_reducible refine LeO.ite ?_ ?_)
      | (with_reducible refine LeO.bind ?_ (fun _ => ?_))
      | exact ih0 _ _ _
      | exact ih1 _ _ _
      | exact spec_ValidPath.mono _ _
      | exact LeO.none _
      | refine LeO.ite ?_ ?_
      | refine LeO.bind ?_ (fun _ => ?_)
theorem laws_FnNmPaths.mono : ∀ a0 a1 k, LeO (laws_FnNmPaths.f k a0 a1) (laws_FnNmPaths.f (k + 1) a0 a1) := by
  intro a0 a1 k
  obtain ⟨ih0, ih1⟩ := laws_FnNmPaths.mono_l k
  unfold laws_FnNmPaths.f
  repeat' first
      | (with_reducible exact ih0 _ _ _)
      | (with_reducible exact ih1 _ _ _)
      | (with_reducible exact spec_ValidPath.mono _ _)
      | (with_reducible exact LeO.refl _)
      | (with_reducible exact LeO.none _)
      | (with_reducible refine LeO.ite ?_ ?_)
      | (with_reducible refine LeO.bind ?_ (fun _ => ?_))
      | exact ih0 _ _ _
      | exact ih1 _ _ _
      | exact spec_ValidPath.mono _ _
      | exact LeO.none _
      | refine LeO.ite ?_ ?_
      | refine LeO.bind ?_ (fun _ => ?_)
set_option maxHeartbeats 8000000 in
set_option maxRecDepth 100000 in
theorem laws_FnNmPaths.calls (k : Nat) (a0 : ByteArray) (a1 : ByteArray) (r : Bool) (w : World) (h : laws_FnNmPaths.f k a0 a1 = some r) :
    Calls Try.prog 12 #[.string a0, .string a1] w fun e w' => e = .returned (.bool r) ∧ Below w.heap.size w w' := by
  have HB := Aside0.mk (Below.refl w.heap.size w)
  have H : (if (a0.size : Int) > 2147483647 then (laws_FnNmPaths.j0 k a0 a1 true) else (laws_FnNmPaths.j0 k a0 a1 (decide ((a1.size : Int) > 2147483647)))) = some r := h
  clear h
  have HC3 := Aside0.mk H
  clear H
  go_enter Try.func12, Try.ntmps12
  go_upto_region 1 with (fail)
  go_cut [12] (fun v12 wc => ∃ (kq : Nat) (x12_2 : Bool), v12 = .bool x12_2 ∧ Aside0 (laws_FnNmPaths.j0 kq a0 a1 x12_2 = some r) ∧ Aside0 (kq ≤ k) ∧ Aside0 (Below w.heap.size w wc))
  case first =>
    have H := HC3.out
    clear HC3
    by_cases c4 : (a0.size : Int) > 2147483647
    · rw [if_pos c4] at H
      have c4b0 : decide (2147483647 < (a0.size : Int)) = true := decide_eq_true c4
      have c4b1 : decide (2147483647 < a0.size) = true := decide_eq_true (by omega)
      clear c4
      (first | rw [c4b0] | (simp only [i64_w, i32_w]; rw [c4b0]) | skip)
      have H' := Aside0.mk H
      clear H
      go_wp2
      go_meet
      case rel => exact ⟨_, (true), (by first | rfl | (simp; done) | (simp [*]; done)), H', ⟨by first | omega | exact Nat.le_refl _⟩, ⟨by repeat (first | (with_reducible first | exact HB.out | apply below_alloc | apply pw_below_drewN | apply below_drew1) | exact HB.out)⟩⟩
    · rw [if_neg c4] at H
      have c4b0 : decide (2147483647 < (a0.size : Int)) = false := decide_eq_false c4
      have c4b1 : decide (2147483647 < a0.size) = false := decide_eq_false (by omega)
      clear c4
      (first | rw [c4b0] | (simp only [i64_w, i32_w]; rw [c4b0]) | skip)
      have H' := Aside0.mk H
      clear H
      go_wp2
      go_meet
      case rel => exact ⟨_, (decide ((a1.size : Int) > 2147483647)), (by first | rfl | (simp; done) | (simp [*]; done)), H', ⟨by first | omega | exact Nat.le_refl _⟩, ⟨by repeat (first | (with_reducible first | exact HB.out | apply below_alloc | apply pw_below_drewN | apply below_drew1) | exact HB.out)⟩⟩
  case rest =>
    clear HC3
    try clear c1
    try clear p2
    try clear c4
    try clear c4b0
    try clear c4b1
    obtain ⟨kq, x12_2, rfl, HA, HJ2, HB⟩ := hcut
    cases kq with
    | zero => exact absurd HA.out (by simp [laws_FnNmPaths.j0])
    | succ kj2 =>
      have H := HA.out
      clear HA
      simp only [laws_FnNmPaths.j0] at H
      by_cases c5 : x12_2 = true
      · subst c5
        have H1 : (some true) = some r := by rw [if_pos rfl] at H; exact H
        clear H
        have H := H1
        clear H1
        obtain rfl := Option.some.inj H
        go_wp2
        go_ret
        exact ⟨by first | rfl | (simp [errW_none, errW_some] <;> rfl) | (simp [*, errW_none, errW_some] <;> rfl), by repeat (first | (with_reducible first | exact HB.out | apply below_alloc | apply pw_below_drewN | apply below_drew1) | exact HB.out)⟩
      · replace c5 := Bool.eq_false_iff.mpr c5
        subst c5
        have H1 : (if (a0.size : Int) > 2048 then (laws_FnNmPaths.j1 kj2 a0 a1 true) else (if (a1.size : Int) > 2048 then (laws_FnNmPaths.j1 kj2 a0 a1 true) else ((spec_ValidPath.f kj2 a0).bind fun t121 => (if t121 = true then ((spec_ValidPath.f kj2 a1).bind fun t122 => (if t122 = true then (if a0.toList = ([47] : List UInt8) then (laws_FnNmPaths.j1 kj2 a0 a1 true) else (laws_FnNmPaths.j1 kj2 a0 a1 (a1.toList == ([47] : List UInt8)))) else (laws_FnNmPaths.j1 kj2 a0 a1 true))) else (laws_FnNmPaths.j1 kj2 a0 a1 true))))) = some r := by rw [if_neg (show ¬ (false = true) by decide)] at H; exact H
        clear H
        have H := H1
        clear H1
        have HC6 := Aside0.mk H
        clear H
        go_upto_region 3 with (fail)
        go_cut [38] (fun v38 wc => ∃ (kq : Nat) (x38_5 : Bool), v38 = .bool x38_5 ∧ Aside0 (laws_FnNmPaths.j1 kq a0 a1 x38_5 = some r) ∧ Aside0 (kq ≤ kj2) ∧ Aside0 (Below w.heap.size w wc))
        case first =>
          have H := HC6.out
          clear HC6
          by_cases c7 : (a0.size : Int) > 2048
          · rw [if_pos c7] at H
            have c7b0 : decide (2048 < (a0.size : Int)) = true := decide_eq_true c7
            have c7b1 : decide (2048 < a0.size) = true := decide_eq_true (by omega)
            clear c7
            (first | rw [c7b0] | (simp only [i64_w, i32_w]; rw [c7b0]) | skip)
            have H' := Aside0.mk H
            clear H
            go_wp2
            go_meet
            case rel => exact ⟨_, (true), (by first | rfl | (simp; done) | (simp [*]; done)), H', ⟨by have := HJ2.out; first | omega | exact Nat.le_refl _⟩, ⟨by repeat (first | (with_reducible first | exact HB.out | apply below_alloc | apply pw_below_drewN | apply below_drew1) | exact HB.out)⟩⟩
          · rw [if_neg c7] at H
            have c7b0 : decide (2048 < (a0.size : Int)) = false := decide_eq_false c7
            have c7b1 : decide (2048 < a0.size) = false := decide_eq_false (by omega)
            clear c7
            (first | rw [c7b0] | (simp only [i64_w, i32_w]; rw [c7b0]) | skip)
            by_cases c8 : (a1.size : Int) > 2048
            · rw [if_pos c8] at H
              have c8b0 : decide (2048 < (a1.size : Int)) = true := decide_eq_true c8
              have c8b1 : decide (2048 < a1.size) = true := decide_eq_true (by omega)
              clear c8
              have H' := Aside0.mk H
              clear H
              go_wp2
              go_meet
              case rel => exact ⟨_, (true), (by first | rfl | (simp; done) | (simp [*]; done)), H', ⟨by have := HJ2.out; first | omega | exact Nat.le_refl _⟩, ⟨by repeat (first | (with_reducible first | exact HB.out | apply below_alloc | apply pw_below_drewN | apply below_drew1) | exact HB.out)⟩⟩
            · rw [if_neg c8] at H
              have c8b0 : decide (2048 < (a1.size : Int)) = false := decide_eq_false c8
              have c8b1 : decide (2048 < a1.size) = false := decide_eq_false (by omega)
              clear c8
              replace H := Option.bind_eq_some_iff.mp H
              obtain ⟨t121, A90, H⟩ := H
              replace H : (if t121 = true then ((spec_ValidPath.f kj2 a1).bind fun t122 => (if t122 = true then (if a0.toList = ([47] : List UInt8) then (laws_FnNmPaths.j1 kj2 a0 a1 true) else (laws_FnNmPaths.j1 kj2 a0 a1 (a1.toList == ([47] : List UInt8)))) else (laws_FnNmPaths.j1 kj2 a0 a1 true))) else (laws_FnNmPaths.j1 kj2 a0 a1 true)) = some r := H
              have A9 := Aside0.mk A90
              clear A90
              by_cases c10 : t121 = true
              · subst c10
                have H1 : ((spec_ValidPath.f kj2 a1).bind fun t122 => (if t122 = true then (if a0.toList = ([47] : List UInt8) then (laws_FnNmPaths.j1 kj2 a0 a1 true) else (laws_FnNmPaths.j1 kj2 a0 a1 (a1.toList == ([47] : List UInt8)))) else (laws_FnNmPaths.j1 kj2 a0 a1 true))) = some r := by rw [if_pos rfl] at H; exact H
                clear H
                have H := H1
                clear H1
                replace H := Option.bind_eq_some_iff.mp H
                obtain ⟨t122, A110, H⟩ := H
                replace H : (if t122 = true then (if a0.toList = ([47] : List UInt8) then (laws_FnNmPaths.j1 kj2 a0 a1 true) else (laws_FnNmPaths.j1 kj2 a0 a1 (a1.toList == ([47] : List UInt8)))) else (laws_FnNmPaths.j1 kj2 a0 a1 true)) = some r := H
                have A11 := Aside0.mk A110
                clear A110
                by_cases c12 : t122 = true
                · subst c12
                  have H1 : (if a0.toList = ([47] : List UInt8) then (laws_FnNmPaths.j1 kj2 a0 a1 true) else (laws_FnNmPaths.j1 kj2 a0 a1 (a1.toList == ([47] : List UInt8)))) = some r := by rw [if_pos rfl] at H; exact H
                  clear H
                  have H := H1
                  clear H1
                  by_cases c13 : a0.toList = ([47] : List UInt8)
                  · rw [if_pos c13] at H
                    have c13b0 : (a0.toList == ([47] : List UInt8)) = true := beq_iff_eq.mpr c13
                    have c13b1 : (a0.toList != ([47] : List UInt8)) = false := bne_eq_false_iff_eq.mpr c13
                    clear c13
                    have H' := Aside0.mk H
                    clear H
                    go_wp2_with (first | (go_at_call 26; (with_reducible refine (spec_ValidPath.calls kj2 a0 true _ A9.out).mono ?_); rintro e w' ⟨rfl, ⟨nd, rfl⟩⟩) | (go_at_call 26; (with_reducible refine (spec_ValidPath.calls kj2 a1 true _ A11.out).mono ?_); rintro e w' ⟨rfl, ⟨nd, rfl⟩⟩))
                    go_meet
                    case rel => exact ⟨_, (true), (by first | rfl | (simp; done) | (simp [*]; done)), H', ⟨by have := HJ2.out; first | omega | exact Nat.le_refl _⟩, ⟨by repeat (first | (with_reducible first | exact HB.out | apply below_alloc | apply pw_below_drewN | apply below_drew1) | exact HB.out)⟩⟩
                  · rw [if_neg c13] at H
                    have c13b0 : (a0.toList == ([47] : List UInt8)) = false := beq_eq_false_iff_ne.mpr c13
                    have c13b1 : (a0.toList != ([47] : List UInt8)) = true := bne_iff_ne.mpr c13
                    have H' := Aside0.mk H
                    clear H
                    go_wp2_with (first | (go_at_call 26; (with_reducible refine (spec_ValidPath.calls kj2 a0 true _ A9.out).mono ?_); rintro e w' ⟨rfl, ⟨nd, rfl⟩⟩) | (go_at_call 26; (with_reducible refine (spec_ValidPath.calls kj2 a1 true _ A11.out).mono ?_); rintro e w' ⟨rfl, ⟨nd, rfl⟩⟩))
                    go_meet
                    case rel => exact ⟨_, ((a1.toList == ([47] : List UInt8))), (by first | rfl | (simp; done) | (simp [*]; done)), H', ⟨by have := HJ2.out; first | omega | exact Nat.le_refl _⟩, ⟨by repeat (first | (with_reducible first | exact HB.out | apply below_alloc | apply pw_below_drewN | apply below_drew1) | exact HB.out)⟩⟩
                · replace c12 := Bool.eq_false_iff.mpr c12
                  subst c12
                  have H1 : (laws_FnNmPaths.j1 kj2 a0 a1 true) = some r := by rw [if_neg (show ¬ (false = true) by decide)] at H; exact H
                  clear H
                  have H := H1
                  clear H1
                  have H' := Aside0.mk H
                  clear H
                  go_wp2_with (first | (go_at_call 26; (with_reducible refine (spec_ValidPath.calls kj2 a0 true _ A9.out).mono ?_); rintro e w' ⟨rfl, ⟨nd, rfl⟩⟩) | (go_at_call 26; (with_reducible refine (spec_ValidPath.calls kj2 a1 false _ A11.out).mono ?_); rintro e w' ⟨rfl, ⟨nd, rfl⟩⟩))
                  go_meet
                  case rel => exact ⟨_, (true), (by first | rfl | (simp; done) | (simp [*]; done)), H', ⟨by have := HJ2.out; first | omega | exact Nat.le_refl _⟩, ⟨by repeat (first | (with_reducible first | exact HB.out | apply below_alloc | apply pw_below_drewN | apply below_drew1) | exact HB.out)⟩⟩
              · replace c10 := Bool.eq_false_iff.mpr c10
                subst c10
                have H1 : (laws_FnNmPaths.j1 kj2 a0 a1 true) = some r := by rw [if_neg (show ¬ (false = true) by decide)] at H; exact H
                clear H
                have H := H1
                clear H1
                have H' := Aside0.mk H
                clear H
                go_wp2_with (first | (go_at_call 26; (with_reducible refine (spec_ValidPath.calls kj2 a0 false _ A9.out).mono ?_); rintro e w' ⟨rfl, ⟨nd, rfl⟩⟩))
                go_meet
                case rel => exact ⟨_, (true), (by first | rfl | (simp; done) | (simp [*]; done)), H', ⟨by have := HJ2.out; first | omega | exact Nat.le_refl _⟩, ⟨by repeat (first | (with_reducible first | exact HB.out | apply below_alloc | apply pw_below_drewN | apply below_drew1) | exact HB.out)⟩⟩
        case rest =>
          clear HC6
          try clear c1
          try clear p2
          try clear c4
          try clear c4b0
          try clear c4b1
          try clear c5
          try clear c7
          try clear c7b0
          try clear c7b1
          try clear c8
          try clear c8b0
          try clear c8b1
          try clear c10
          try clear c12
          try clear c13
          try clear c13b0
          try clear c13b1
          try clear p2
          obtain ⟨kq, x38_5, rfl, HA, HJ5, HB⟩ := hcut
          cases kq with
          | zero => exact absurd HA.out (by simp [laws_FnNmPaths.j1])
          | succ kj5 =>
            have H := HA.out
            clear HA
            simp only [laws_FnNmPaths.j1] at H
            by_cases c14 : x38_5 = true
            · subst c14
              have H1 : (some true) = some r := by rw [if_pos rfl] at H; exact H
              clear H
              have H := H1
              clear H1
              obtain rfl := Option.some.inj H
              go_wp2
              go_ret
              exact ⟨by first | rfl | (simp [errW_none, errW_some] <;> rfl) | (simp [*, errW_none, errW_some] <;> rfl), by repeat (first | (with_reducible first | exact HB.out | apply below_alloc | apply pw_below_drewN | apply below_drew1) | exact HB.out)⟩
            · replace c14 := Bool.eq_false_iff.mpr c14
              subst c14
              have H1 : (if a0.size + a1.size ≤ 9223372036854775807 then ((impl_NmPath.f (a0 ++ a1)).bind fun t123 => (if t123 = true then (if a0.size + 1 ≤ 9223372036854775807 then ((impl_NmPath.f (a0 ++ (⟨#[47]⟩ : ByteArray))).bind fun t124 => (if t124 = true then (some false) else (if 1 ≤ (a0.size : Int) then ((impl_NmPath.f (a0.extract 1 a0.size)).bind fun t125 => (if t125 = true then (some false) else (if (a0 ++ (⟨#[47]⟩ : ByteArray)).size + a1.size ≤ 9223372036854775807 then ((impl_NmPath.f ((a0 ++ (⟨#[47]⟩ : ByteArray)) ++ a1)).bind fun t126 => (some (!t126))) else (none)))) else (none)))) else (none)) else (some false))) else (none)) = some r := by rw [if_neg (show ¬ (false = true) by decide)] at H; exact H
              clear H
              have H := H1
              clear H1
              by_cases c15 : a0.size + a1.size ≤ 9223372036854775807
              · rw [if_pos c15] at H
                have c15b0 := eq_true c15
                have c15b1 : decide (a0.size + a1.size ≤ 9223372036854775807) = true := decide_eq_true c15
                try have c15b2 : (9223372036854775807 < a0.size + a1.size) = False := eq_false (Nat.not_lt.2 c15)
                replace H := Option.bind_eq_some_iff.mp H
                obtain ⟨t123, A160, H⟩ := H
                replace H : (if t123 = true then (if a0.size + 1 ≤ 9223372036854775807 then ((impl_NmPath.f (a0 ++ (⟨#[47]⟩ : ByteArray))).bind fun t124 => (if t124 = true then (some false) else (if 1 ≤ (a0.size : Int) then ((impl_NmPath.f (a0.extract 1 a0.size)).bind fun t125 => (if t125 = true then (some false) else (if (a0 ++ (⟨#[47]⟩ : ByteArray)).size + a1.size ≤ 9223372036854775807 then ((impl_NmPath.f ((a0 ++ (⟨#[47]⟩ : ByteArray)) ++ a1)).bind fun t126 => (some (!t126))) else (none)))) else (none)))) else (none)) else (some false)) = some r := H
                have A16 := Aside0.mk A160
                clear A160
                by_cases c17 : t123 = true
                · subst c17
                  have H1 : (if a0.size + 1 ≤ 9223372036854775807 then ((impl_NmPath.f (a0 ++ (⟨#[47]⟩ : ByteArray))).bind fun t124 => (if t124 = true then (some false) else (if 1 ≤ (a0.size : Int) then ((impl_NmPath.f (a0.extract 1 a0.size)).bind fun t125 => (if t125 = true then (some false) else (if (a0 ++ (⟨#[47]⟩ : ByteArray)).size + a1.size ≤ 9223372036854775807 then ((impl_NmPath.f ((a0 ++ (⟨#[47]⟩ : ByteArray)) ++ a1)).bind fun t126 => (some (!t126))) else (none)))) else (none)))) else (none)) = some r := by rw [if_pos rfl] at H; exact H
                  clear H
                  have H := H1
                  clear H1
                  by_cases c18 : a0.size + 1 ≤ 9223372036854775807
                  · rw [if_pos c18] at H
                    have c18b0 := eq_true c18
                    have c18b1 : decide (a0.size + 1 ≤ 9223372036854775807) = true := decide_eq_true c18
                    try have c18b2 : (9223372036854775807 < a0.size + 1) = False := eq_false (Nat.not_lt.2 c18)
                    replace H := Option.bind_eq_some_iff.mp H
                    obtain ⟨t124, A190, H⟩ := H
                    replace H : (if t124 = true then (some false) else (if 1 ≤ (a0.size : Int) then ((impl_NmPath.f (a0.extract 1 a0.size)).bind fun t125 => (if t125 = true then (some false) else (if (a0 ++ (⟨#[47]⟩ : ByteArray)).size + a1.size ≤ 9223372036854775807 then ((impl_NmPath.f ((a0 ++ (⟨#[47]⟩ : ByteArray)) ++ a1)).bind fun t126 => (some (!t126))) else (none)))) else (none))) = some r := H
                    have A19 := Aside0.mk A190
                    clear A190
                    by_cases c20 : t124 = true
                    · subst c20
                      have H1 : (some false) = some r := by rw [if_pos rfl] at H; exact H
                      clear H
                      have H := H1
                      clear H1
                      obtain rfl := Option.some.inj H
                      go_wp2_with (first | ((with_reducible refine gate_callee (f := 27) rfl ?_); refine goesL_ (some 42) rfl rfl Try.func27 (by kernel_rfl) rfl #[.string (a0 ++ a1)] rfl (by (try simp only [List.map_toArray, List.map_cons, List.map_nil]); first | done | rfl | (simp only [List.length_drop, List.length_take]; rfl)) ?_; (with_reducible refine (impl_NmPath.calls (a0 ++ a1) true _ A16.out).mono ?_); rintro e w21 ⟨rfl, hb⟩; refine ⟨_, rfl, ?_⟩; have n0_ := Aside0.mk (below_step (by repeat (first | (with_reducible first | exact HB.out | apply below_alloc | apply pw_below_drewN | apply below_drew1) | exact HB.out)) hb); clear HB; have HB := n0_; clear n0_; (try clear hb); (try clear hb2); (try clear hk); (try clear hi)) | (go_at_call 27; (with_reducible refine (impl_NmPath.calls (a0 ++ (⟨#[47]⟩ : ByteArray)) true _ A19.out).mono ?_); rintro e w22 ⟨rfl, hb⟩; have n0_ := Aside0.mk (below_step (by repeat (first | (with_reducible first | exact HB.out | apply below_alloc | apply pw_below_drewN | apply below_drew1) | exact HB.out)) hb); clear HB; have HB := n0_; clear n0_; (try clear hb); (try clear hb2); (try clear hk); (try clear hi)))
                      go_ret
                      exact ⟨by first | rfl | (simp [errW_none, errW_some] <;> rfl) | (simp [*, errW_none, errW_some] <;> rfl), by repeat (first | (with_reducible first | exact HB.out | apply below_alloc | apply pw_below_drewN | apply below_drew1) | exact HB.out)⟩
                    · replace c20 := Bool.eq_false_iff.mpr c20
                      subst c20
                      have H1 : (if 1 ≤ (a0.size : Int) then ((impl_NmPath.f (a0.extract 1 a0.size)).bind fun t125 => (if t125 = true then (some false) else (if (a0 ++ (⟨#[47]⟩ : ByteArray)).size + a1.size ≤ 9223372036854775807 then ((impl_NmPath.f ((a0 ++ (⟨#[47]⟩ : ByteArray)) ++ a1)).bind fun t126 => (some (!t126))) else (none)))) else (none)) = some r := by rw [if_neg (show ¬ (false = true) by decide)] at H; exact H
                      clear H
                      have H := H1
                      clear H1
                      by_cases c23 : 1 ≤ (a0.size : Int)
                      · rw [if_pos c23] at H
                        have c23b0 := eq_true c23
                        have c23b1 : decide (1 ≤ (a0.size : Int)) = true := decide_eq_true c23
                        clear c23
                        replace H := Option.bind_eq_some_iff.mp H
                        obtain ⟨t125, A240, H⟩ := H
                        replace H : (if t125 = true then (some false) else (if (a0 ++ (⟨#[47]⟩ : ByteArray)).size + a1.size ≤ 9223372036854775807 then ((impl_NmPath.f ((a0 ++ (⟨#[47]⟩ : ByteArray)) ++ a1)).bind fun t126 => (some (!t126))) else (none))) = some r := H
                        have A24 := Aside0.mk A240
                        clear A240
                        by_cases c25 : t125 = true
                        · subst c25
                          have H1 : (some false) = some r := by rw [if_pos rfl] at H; exact H
                          clear H
                          have H := H1
                          clear H1
                          obtain rfl := Option.some.inj H
                          go_wp2_with (first | ((with_reducible refine gate_callee (f := 27) rfl ?_); refine goesL_ (some 42) rfl rfl Try.func27 (by kernel_rfl) rfl #[.string (a0 ++ a1)] rfl (by (try simp only [List.map_toArray, List.map_cons, List.map_nil]); first | done | rfl | (simp only [List.length_drop, List.length_take]; rfl)) ?_; (with_reducible refine (impl_NmPath.calls (a0 ++ a1) true _ A16.out).mono ?_); rintro e w26 ⟨rfl, hb⟩; refine ⟨_, rfl, ?_⟩; have n0_ := Aside0.mk (below_step (by repeat (first | (with_reducible first | exact HB.out | apply below_alloc | apply pw_below_drewN | apply below_drew1) | exact HB.out)) hb); clear HB; have HB := n0_; clear n0_; (try clear hb); (try clear hb2); (try clear hk); (try clear hi)) | (go_at_call 27; (with_reducible refine (impl_NmPath.calls (a0 ++ (⟨#[47]⟩ : ByteArray)) false _ A19.out).mono ?_); rintro e w27 ⟨rfl, hb⟩; have n0_ := Aside0.mk (below_step (by repeat (first | (with_reducible first | exact HB.out | apply below_alloc | apply pw_below_drewN | apply below_drew1) | exact HB.out)) hb); clear HB; have HB := n0_; clear n0_; (try clear hb); (try clear hb2); (try clear hk); (try clear hi)) | (go_at_call 27; (with_reducible refine (impl_NmPath.calls (a0.extract 1 a0.size) true _ A24.out).mono ?_); rintro e w28 ⟨rfl, hb⟩; have n0_ := Aside0.mk (below_step (by repeat (first | (with_reducible first | exact HB.out | apply below_alloc | apply pw_below_drewN | apply below_drew1) | exact HB.out)) hb); clear HB; have HB := n0_; clear n0_; (try clear hb); (try clear hb2); (try clear hk); (try clear hi)))
                          go_ret
                          exact ⟨by first | rfl | (simp [errW_none, errW_some] <;> rfl) | (simp [*, errW_none, errW_some] <;> rfl), by repeat (first | (with_reducible first | exact HB.out | apply below_alloc | apply pw_below_drewN | apply below_drew1) | exact HB.out)⟩
                        · replace c25 := Bool.eq_false_iff.mpr c25
                          subst c25
                          have H1 : (if (a0 ++ (⟨#[47]⟩ : ByteArray)).size + a1.size ≤ 9223372036854775807 then ((impl_NmPath.f ((a0 ++ (⟨#[47]⟩ : ByteArray)) ++ a1)).bind fun t126 => (some (!t126))) else (none)) = some r := by rw [if_neg (show ¬ (false = true) by decide)] at H; exact H
                          clear H
                          have H := H1
                          clear H1
                          by_cases c29 : (a0 ++ (⟨#[47]⟩ : ByteArray)).size + a1.size ≤ 9223372036854775807
                          · rw [if_pos c29] at H
                            have c29b0 := eq_true c29
                            have c29b1 : decide ((a0 ++ (⟨#[47]⟩ : ByteArray)).size + a1.size ≤ 9223372036854775807) = true := decide_eq_true c29
                            try have c29b2 : (9223372036854775807 < (a0 ++ (⟨#[47]⟩ : ByteArray)).size + a1.size) = False := eq_false (Nat.not_lt.2 c29)
                            replace H := Option.bind_eq_some_iff.mp H
                            obtain ⟨t126, A300, H⟩ := H
                            replace H : (some (!t126)) = some r := H
                            have A30 := Aside0.mk A300
                            clear A300
                            obtain rfl := Option.some.inj H
                            go_wp2_with (first | ((with_reducible refine gate_callee (f := 27) rfl ?_); refine goesL_ (some 42) rfl rfl Try.func27 (by kernel_rfl) rfl #[.string (a0 ++ a1)] rfl (by (try simp only [List.map_toArray, List.map_cons, List.map_nil]); first | done | rfl | (simp only [List.length_drop, List.length_take]; rfl)) ?_; (with_reducible refine (impl_NmPath.calls (a0 ++ a1) true _ A16.out).mono ?_); rintro e w31 ⟨rfl, hb⟩; refine ⟨_, rfl, ?_⟩; have n0_ := Aside0.mk (below_step (by repeat (first | (with_reducible first | exact HB.out | apply below_alloc | apply pw_below_drewN | apply below_drew1) | exact HB.out)) hb); clear HB; have HB := n0_; clear n0_; (try clear hb); (try clear hb2); (try clear hk); (try clear hi)) | (go_at_call 27; (with_reducible refine (impl_NmPath.calls (a0 ++ (⟨#[47]⟩ : ByteArray)) false _ A19.out).mono ?_); rintro e w32 ⟨rfl, hb⟩; have n0_ := Aside0.mk (below_step (by repeat (first | (with_reducible first | exact HB.out | apply below_alloc | apply pw_below_drewN | apply below_drew1) | exact HB.out)) hb); clear HB; have HB := n0_; clear n0_; (try clear hb); (try clear hb2); (try clear hk); (try clear hi)) | (go_at_call 27; (with_reducible refine (impl_NmPath.calls (a0.extract 1 a0.size) false _ A24.out).mono ?_); rintro e w33 ⟨rfl, hb⟩; have n0_ := Aside0.mk (below_step (by repeat (first | (with_reducible first | exact HB.out | apply below_alloc | apply pw_below_drewN | apply below_drew1) | exact HB.out)) hb); clear HB; have HB := n0_; clear n0_; (try clear hb); (try clear hb2); (try clear hk); (try clear hi)) | (go_at_call 27; (with_reducible refine (impl_NmPath.calls ((a0 ++ (⟨#[47]⟩ : ByteArray)) ++ a1) t126 _ A30.out).mono ?_); rintro e w34 ⟨rfl, hb⟩; have n0_ := Aside0.mk (below_step (by repeat (first | (with_reducible first | exact HB.out | apply below_alloc | apply pw_below_drewN | apply below_drew1) | exact HB.out)) hb); clear HB; have HB := n0_; clear n0_; (try clear hb); (try clear hb2); (try clear hk); (try clear hi)))
                            go_ret
                            exact ⟨by first | rfl | (simp [errW_none, errW_some] <;> rfl) | (simp [*, errW_none, errW_some] <;> rfl), by repeat (first | (with_reducible first | exact HB.out | apply below_alloc | apply pw_below_drewN | apply below_drew1) | exact HB.out)⟩
                          · rw [if_neg c29] at H
                            exact absurd H (by simp)
                      · rw [if_neg c23] at H
                        exact absurd H (by simp)
                  · rw [if_neg c18] at H
                    exact absurd H (by simp)
                · replace c17 := Bool.eq_false_iff.mpr c17
                  subst c17
                  have H1 : (some false) = some r := by rw [if_neg (show ¬ (false = true) by decide)] at H; exact H
                  clear H
                  have H := H1
                  clear H1
                  obtain rfl := Option.some.inj H
                  go_wp2_with (first | ((with_reducible refine gate_callee (f := 27) rfl ?_); refine goesL_ (some 42) rfl rfl Try.func27 (by kernel_rfl) rfl #[.string (a0 ++ a1)] rfl (by (try simp only [List.map_toArray, List.map_cons, List.map_nil]); first | done | rfl | (simp only [List.length_drop, List.length_take]; rfl)) ?_; (with_reducible refine (impl_NmPath.calls (a0 ++ a1) false _ A16.out).mono ?_); rintro e w35 ⟨rfl, hb⟩; refine ⟨_, rfl, ?_⟩; have n0_ := Aside0.mk (below_step (by repeat (first | (with_reducible first | exact HB.out | apply below_alloc | apply pw_below_drewN | apply below_drew1) | exact HB.out)) hb); clear HB; have HB := n0_; clear n0_; (try clear hb); (try clear hb2); (try clear hk); (try clear hi)))
                  go_ret
                  exact ⟨by first | rfl | (simp [errW_none, errW_some] <;> rfl) | (simp [*, errW_none, errW_some] <;> rfl), by repeat (first | (with_reducible first | exact HB.out | apply below_alloc | apply pw_below_drewN | apply below_drew1) | exact HB.out)⟩
              · rw [if_neg c15] at H
                exact absurd H (by simp)

/-- THE ONE PURE STATEMENT of laws_FnNmPaths: yours. -/
def laws_FnNmPaths.Pure : Prop := ∀ (a0 : ByteArray) (a1 : ByteArray), a0.size ≤ 140737488351232 → a1.size ≤ 140737488351232 → ∃ k, laws_FnNmPaths.f k a0 a1 = some true
theorem laws_FnNmPaths.walk (P : laws_FnNmPaths.Pure) (a0 : ByteArray) (a1 : ByteArray) (w : World) (w0 : a0.size ≤ 140737488351232) (w1 : a1.size ≤ 140737488351232) :
    Calls Try.prog 12 #[.string a0, .string a1] w fun e w' => e = .returned (.bool true) ∧ Below w.heap.size w w' := by
  obtain ⟨k, h⟩ := P a0 a1 w0 w1
  refine (laws_FnNmPaths.calls k a0 a1 true w h).mono ?_
  rintro e w' ⟨rfl, hd⟩
  exact ⟨rfl, hd⟩

/-! ### spec_ValidMember: function 28 -/
def spec_ValidMember.f (k : Nat) (a0 : ByteArray) : Option (Bool) := if (a0.size : Int) ≤ 255 then ((spec_points.f k a0).bind fun t127 => (if t127 = 0 then ((spec_named.f k a0 false false).bind fun t128 => (some t128)) else (some false))) else (some false)
theorem spec_ValidMember.mono : ∀ a0 k, LeO (spec_ValidMember.f k a0) (spec_ValidMember.f (k + 1) a0) := by
  intro a0 k
  unfold spec_ValidMember.f
  repeat' first
      | (with_reducible exact spec_named.mono _ _ _ _)
      | (with_reducible exact spec_points.mono _ _)
      | (with_reducible exact LeO.refl _)
      | (with_reducible exact LeO.none _)
      | (with_reducible refine LeO.ite ?_ ?_)
      | (with_reducible refine LeO.bind ?_ (fun _ => ?_))
      | exact spec_named.mono _ _ _ _
      | exact spec_points.mono _ _
      | exact LeO.none _
      | refine LeO.ite ?_ ?_
      | refine LeO.bind ?_ (fun _ => ?_)
set_option maxHeartbeats 8000000 in
set_option maxRecDepth 100000 in
theorem spec_ValidMember.calls (k : Nat) (a0 : ByteArray) (r : Bool) (w : World) (h : spec_ValidMember.f k a0 = some r) :
    Calls Try.prog 28 #[.string a0] w fun e w' => e = .returned (.bool r) ∧ Below w.heap.size w w' := by
  have HB := Aside0.mk (Below.refl w.heap.size w)
  have H : (if (a0.size : Int) ≤ 255 then ((spec_points.f k a0).bind fun t127 => (if t127 = 0 then ((spec_named.f k a0 false false).bind fun t128 => (some t128)) else (some false))) else (some false)) = some r := h
  clear h
  by_cases c2 : (a0.size : Int) ≤ 255
  · rw [if_pos c2] at H
    have c2b0 : decide ((a0.size : Int) ≤ 255) = true := decide_eq_true c2
    have c2b1 : decide (a0.size ≤ 255) = true := decide_eq_true (by omega)
    clear c2
    replace H := Option.bind_eq_some_iff.mp H
    obtain ⟨t127, A30, H⟩ := H
    replace H : (if t127 = 0 then ((spec_named.f k a0 false false).bind fun t128 => (some t128)) else (some false)) = some r := H
    have A3 := Aside0.mk A30
    clear A30
    by_cases c4 : t127 = 0
    · rw [if_pos c4] at H
      have c4b0 : (t127 == 0) = true := beq_iff_eq.mpr c4
      have c4b1 : (t127 != 0) = false := bne_eq_false_iff_eq.mpr c4
      clear c4
      replace H := Option.bind_eq_some_iff.mp H
      obtain ⟨t128, A50, H⟩ := H
      replace H : (some t128) = some r := H
      have A5 := Aside0.mk A50
      clear A50
      obtain rfl := Option.some.inj H
      go_enter Try.func28, Try.ntmps28
      go_wp2_with (first | (go_at_call 41; (with_reducible refine (spec_points.calls k a0 t127 _ A3.out).mono ?_); rintro e w' ⟨rfl, ⟨nd, rfl⟩⟩) | (go_at_call 42; (with_reducible refine (spec_named.calls k a0 false false t128 _ A5.out).mono ?_); rintro e w6 ⟨rfl, hb⟩; have n0_ := Aside0.mk (below_step (by repeat (first | (with_reducible first | exact HB.out | apply below_alloc | apply pw_below_drewN | apply below_drew1) | exact HB.out)) hb); clear HB; have HB := n0_; clear n0_; (try clear hb); (try clear hb2); (try clear hk); (try clear hi)))
      go_ret
      exact ⟨by first | rfl | (simp [errW_none, errW_some] <;> rfl) | (simp [*, errW_none, errW_some] <;> rfl), by repeat (first | (with_reducible first | exact HB.out | apply below_alloc | apply pw_below_drewN | apply below_drew1) | exact HB.out)⟩
    · rw [if_neg c4] at H
      have c4b0 : (t127 == 0) = false := beq_eq_false_iff_ne.mpr c4
      have c4b1 : (t127 != 0) = true := bne_iff_ne.mpr c4
      obtain rfl := Option.some.inj H
      go_enter Try.func28, Try.ntmps28
      go_wp2_with (first | (go_at_call 41; (with_reducible refine (spec_points.calls k a0 t127 _ A3.out).mono ?_); rintro e w' ⟨rfl, ⟨nd, rfl⟩⟩))
      go_ret
      exact ⟨by first | rfl | (simp [errW_none, errW_some] <;> rfl) | (simp [*, errW_none, errW_some] <;> rfl), by repeat (first | (with_reducible first | exact HB.out | apply below_alloc | apply pw_below_drewN | apply below_drew1) | exact HB.out)⟩
  · rw [if_neg c2] at H
    have c2b0 : decide ((a0.size : Int) ≤ 255) = false := decide_eq_false c2
    have c2b1 : decide (a0.size ≤ 255) = false := decide_eq_false (by omega)
    clear c2
    obtain rfl := Option.some.inj H
    go_enter Try.func28, Try.ntmps28
    go_wp2
    go_ret
    exact ⟨by first | rfl | (simp [errW_none, errW_some] <;> rfl) | (simp [*, errW_none, errW_some] <;> rfl), by repeat (first | (with_reducible first | exact HB.out | apply below_alloc | apply pw_below_drewN | apply below_drew1) | exact HB.out)⟩

/-! ### dbus_DoorMember: function 45 -/
def dbus_DoorMember.f (a0 : ByteArray) : Option (Bool) := (Given.IsMember.f a0).bind fun t129 => (some t129)
set_option maxHeartbeats 8000000 in
set_option maxRecDepth 100000 in
theorem dbus_DoorMember.calls (a0 : ByteArray) (r : Bool) (w : World) (h : dbus_DoorMember.f a0 = some r) :
    Calls Try.prog 45 #[.string a0] w fun e w' => e = .returned (.bool r) ∧ Below w.heap.size w w' := by
  have HB := Aside0.mk (Below.refl w.heap.size w)
  have H : ((Given.IsMember.f a0).bind fun t129 => (some t129)) = some r := h
  clear h
  replace H := Option.bind_eq_some_iff.mp H
  obtain ⟨t129, A20, H⟩ := H
  replace H : (some t129) = some r := H
  have A2 := Aside0.mk A20
  clear A20
  obtain rfl := Option.some.inj H
  go_enter Try.func45, Try.ntmps45
  go_wp2_with (first | ((with_reducible refine gate_callee (f := 59) rfl ?_); refine goesL_ (some 4) rfl rfl Try.func59 (by kernel_rfl) rfl #[.string a0] rfl (by (try simp only [List.map_toArray, List.map_cons, List.map_nil]); first | done | rfl | (simp only [List.length_drop, List.length_take]; rfl)) ?_; (with_reducible refine (Given.IsMember.calls a0 t129 _ A2.out).mono ?_); rintro e w3 ⟨rfl, hb⟩; refine ⟨_, rfl, ?_⟩; have n0_ := Aside0.mk (below_step (by repeat (first | (with_reducible first | exact HB.out | apply below_alloc | apply pw_below_drewN | apply below_drew1) | exact HB.out)) hb); clear HB; have HB := n0_; clear n0_; (try clear hb); (try clear hb2); (try clear hk); (try clear hi)))
  go_ret
  exact ⟨by first | rfl | (simp [errW_none, errW_some] <;> rfl) | (simp [*, errW_none, errW_some] <;> rfl), by repeat (first | (with_reducible first | exact HB.out | apply below_alloc | apply pw_below_drewN | apply below_drew1) | exact HB.out)⟩

/-! ### impl_NmMember: function 29 -/
def impl_NmMember.f (a0 : ByteArray) : Option (Bool) := (dbus_DoorMember.f a0).bind fun t130 => (some t130)
set_option maxHeartbeats 8000000 in
set_option maxRecDepth 100000 in
theorem impl_NmMember.calls (a0 : ByteArray) (r : Bool) (w : World) (h : impl_NmMember.f a0 = some r) :
    Calls Try.prog 29 #[.string a0] w fun e w' => e = .returned (.bool r) ∧ Below w.heap.size w w' := by
  have HB := Aside0.mk (Below.refl w.heap.size w)
  have H : ((dbus_DoorMember.f a0).bind fun t130 => (some t130)) = some r := h
  clear h
  replace H := Option.bind_eq_some_iff.mp H
  obtain ⟨t130, A20, H⟩ := H
  replace H : (some t130) = some r := H
  have A2 := Aside0.mk A20
  clear A20
  obtain rfl := Option.some.inj H
  go_enter Try.func29, Try.ntmps29
  go_wp2_with (first | ((with_reducible refine gate_callee (f := 45) rfl ?_); refine goesL_ (some 4) rfl rfl Try.func45 (by kernel_rfl) rfl #[.string a0] rfl (by (try simp only [List.map_toArray, List.map_cons, List.map_nil]); first | done | rfl | (simp only [List.length_drop, List.length_take]; rfl)) ?_; (with_reducible refine (dbus_DoorMember.calls a0 t130 _ A2.out).mono ?_); rintro e w3 ⟨rfl, hb⟩; refine ⟨_, rfl, ?_⟩; have n0_ := Aside0.mk (below_step (by repeat (first | (with_reducible first | exact HB.out | apply below_alloc | apply pw_below_drewN | apply below_drew1) | exact HB.out)) hb); clear HB; have HB := n0_; clear n0_; (try clear hb); (try clear hb2); (try clear hk); (try clear hi)))
  go_ret
  exact ⟨by first | rfl | (simp [errW_none, errW_some] <;> rfl) | (simp [*, errW_none, errW_some] <;> rfl), by repeat (first | (with_reducible first | exact HB.out | apply below_alloc | apply pw_below_drewN | apply below_drew1) | exact HB.out)⟩

end Go.Proofs.Ythkmgbfobobpdaa.PNm

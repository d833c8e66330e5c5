/- Part of the proof of LawFnSgOfParts. -/
import Derived.Test.YtnojjfklnihmnaaDoorGvBd
import Derived.Test.YtnojjfklnihmnaaDoorPFnSgOfPartsx3
set_option linter.unusedVariables false
set_option linter.unusedSimpArgs false
namespace Go.Proofs.YtnojjfklnihmnaaDoor.PFnSgOfParts
open Go.RowKit Go.Proofs.YtnojjfklnihmnaaDoorW.PrintWords Go.Proofs.YtnojjfklnihmnaaDoorW.PrintLast Go.Proofs.YtnojjfklnihmnaaDoorW.PrintMore
attribute [local go_sem] max2_int min2_int max_two min_two max_three min_three max_four min_four   -- for this text's walks alone
set_option linter.unusedVariables false
set_option linter.unusedSimpArgs false
def spec_word.f (a0 : Int) : Option (Bool) := if (Go.bits .or .u8 a0 32) ≥ 97 then (if (Go.bits .or .u8 a0 32) ≤ 122 then (some true) else (if a0 ≥ 48 then (if a0 ≤ 57 then (some true) else (some (a0 == 95))) else (some (a0 == 95)))) else (if a0 ≥ 48 then (if a0 ≤ 57 then (some true) else (some (a0 == 95))) else (some (a0 == 95)))
set_option maxHeartbeats 8000000 in
set_option maxRecDepth 100000 in
theorem spec_word.calls (a0 : Int) (r : Bool) (w : World) (h : spec_word.f a0 = some r) :
    Calls Tryd.prog 32 #[.int .u8 a0] w fun e w' => e = .returned (.bool r) ∧ Drawn0 w w' := by
  have H : (if (Go.bits .or .u8 a0 32) ≥ 97 then (if (Go.bits .or .u8 a0 32) ≤ 122 then (some true) else (if a0 ≥ 48 then (if a0 ≤ 57 then (some true) else (some (a0 == 95))) else (some (a0 == 95)))) else (if a0 ≥ 48 then (if a0 ≤ 57 then (some true) else (some (a0 == 95))) else (some (a0 == 95)))) = some r := h
  clear h
  by_cases c2 : (Go.bits .or .u8 a0 32) ≥ 97
  · rw [if_pos c2] at H
    have c2b0 : decide (97 ≤ (Go.bits .or .u8 a0 32)) = true := decide_eq_true c2
    clear c2
    by_cases c3 : (Go.bits .or .u8 a0 32) ≤ 122
    · rw [if_pos c3] at H
      have c3b0 : decide ((Go.bits .or .u8 a0 32) ≤ 122) = true := decide_eq_true c3
      clear c3
      obtain rfl := Option.some.inj H
      go_enter Tryd.func32, Tryd.ntmps32
      go_wp2
      go_ret
      exact ⟨by first | rfl | (simp; done) | (simp [*]; done), by repeat (first | exact Drawn0.refl _ | apply Drawn0.step)⟩
    · rw [if_neg c3] at H
      have c3b0 : decide ((Go.bits .or .u8 a0 32) ≤ 122) = false := decide_eq_false c3
      clear c3
      by_cases c4 : a0 ≥ 48
      · rw [if_pos c4] at H
        have c4b0 : decide (48 ≤ a0) = true := decide_eq_true c4
        clear c4
        by_cases c5 : a0 ≤ 57
        · rw [if_pos c5] at H
          have c5b0 : decide (a0 ≤ 57) = true := decide_eq_true c5
          clear c5
          obtain rfl := Option.some.inj H
          go_enter Tryd.func32, Tryd.ntmps32
          go_wp2
          go_ret
          exact ⟨by first | rfl | (simp; done) | (simp [*]; done), by repeat (first | exact Drawn0.refl _ | apply Drawn0.step)⟩
        · rw [if_neg c5] at H
          have c5b0 : decide (a0 ≤ 57) = false := decide_eq_false c5
          clear c5
          obtain rfl := Option.some.inj H
          go_enter Tryd.func32, Tryd.ntmps32
          go_wp2
          go_ret
          exact ⟨by first | rfl | (simp; done) | (simp [*]; done), by repeat (first | exact Drawn0.refl _ | apply Drawn0.step)⟩
      · rw [if_neg c4] at H
        have c4b0 : decide (48 ≤ a0) = false := decide_eq_false c4
        clear c4
        obtain rfl := Option.some.inj H
        go_enter Tryd.func32, Tryd.ntmps32
        go_wp2
        go_ret
        exact ⟨by first | rfl | (simp; done) | (simp [*]; done), by repeat (first | exact Drawn0.refl _ | apply Drawn0.step)⟩
  · rw [if_neg c2] at H
    have c2b0 : decide (97 ≤ (Go.bits .or .u8 a0 32)) = false := decide_eq_false c2
    clear c2
    by_cases c6 : a0 ≥ 48
    · rw [if_pos c6] at H
      have c6b0 : decide (48 ≤ a0) = true := decide_eq_true c6
      clear c6
      by_cases c7 : a0 ≤ 57
      · rw [if_pos c7] at H
        have c7b0 : decide (a0 ≤ 57) = true := decide_eq_true c7
        clear c7
        obtain rfl := Option.some.inj H
        go_enter Tryd.func32, Tryd.ntmps32
        go_wp2
        go_ret
        exact ⟨by first | rfl | (simp; done) | (simp [*]; done), by repeat (first | exact Drawn0.refl _ | apply Drawn0.step)⟩
      · rw [if_neg c7] at H
        have c7b0 : decide (a0 ≤ 57) = false := decide_eq_false c7
        clear c7
        obtain rfl := Option.some.inj H
        go_enter Tryd.func32, Tryd.ntmps32
        go_wp2
        go_ret
        exact ⟨by first | rfl | (simp; done) | (simp [*]; done), by repeat (first | exact Drawn0.refl _ | apply Drawn0.step)⟩
    · rw [if_neg c6] at H
      have c6b0 : decide (48 ≤ a0) = false := decide_eq_false c6
      clear c6
      obtain rfl := Option.some.inj H
      go_enter Tryd.func32, Tryd.ntmps32
      go_wp2
      go_ret
      exact ⟨by first | rfl | (simp; done) | (simp [*]; done), by repeat (first | exact Drawn0.refl _ | apply Drawn0.step)⟩
mutual
def spec_ValidPath.j0 : Nat → ByteArray → Bool → Option (Bool)
  | 0, _, _ => none
  | k + 1, x0, x20 => if x20 = true then (some false) else (spec_ValidPath.l0 k x0 1)
def spec_ValidPath.l0 : Nat → ByteArray → Int → Option (Bool)
  | 0, _, _ => none
  | k + 1, x0, x3 => if x3 < (x0.size : Int) then (if 0 ≤ x3 then (if (bt x0 x3) = 47 then (if 0 ≤ (wrap64 (x3 - 1)) then (if (wrap64 (x3 - 1)) < (x0.size : Int) then (if (bt x0 (wrap64 (x3 - 1))) = 47 then (some false) else (spec_ValidPath.l0 k x0 (wrap64 (x3 + 1)))) else (none)) else (none)) else ((spec_word.f (bt x0 x3)).bind fun t144 => (if t144 = true then (spec_ValidPath.l0 k x0 (wrap64 (x3 + 1))) else (some false)))) else (none)) else (some true)
end
def spec_ValidPath.f (k : Nat) (a0 : ByteArray) : Option (Bool) := if a0.toList = ([47] : List UInt8) then (some true) else (if a0.toList = ([] : List UInt8) then (spec_ValidPath.j0 k a0 true) else (if 0 < (a0.size : Int) then (if (bt a0 0) = 47 then (if 0 ≤ (wrap64 ((a0.size : Int) - 1)) then (if (wrap64 ((a0.size : Int) - 1)) < (a0.size : Int) then (spec_ValidPath.j0 k a0 ((bt a0 (wrap64 ((a0.size : Int) - 1))) == 47)) else (none)) else (none)) else (spec_ValidPath.j0 k a0 true)) else (none)))
set_option maxHeartbeats 8000000 in
set_option maxRecDepth 100000 in
theorem spec_ValidPath.calls (k : Nat) (a0 : ByteArray) (r : Bool) (w : World) (h : spec_ValidPath.f k a0 = some r) :
    Calls Tryd.prog 24 #[.string a0] w fun e w' => e = .returned (.bool r) ∧ Drawn0 w w' := by
  have H : (if a0.toList = ([47] : List UInt8) then (some true) else (if a0.toList = ([] : List UInt8) then (spec_ValidPath.j0 k a0 true) else (if 0 < (a0.size : Int) then (if (bt a0 0) = 47 then (if 0 ≤ (wrap64 ((a0.size : Int) - 1)) then (if (wrap64 ((a0.size : Int) - 1)) < (a0.size : Int) then (spec_ValidPath.j0 k a0 ((bt a0 (wrap64 ((a0.size : Int) - 1))) == 47)) else (none)) else (none)) else (spec_ValidPath.j0 k a0 true)) else (none)))) = some r := h
  clear h
  by_cases c2 : a0.toList = ([47] : List UInt8)
  · rw [if_pos c2] at H
    have c2b0 : (a0.toList == ([47] : List UInt8)) = true := beq_iff_eq.mpr c2
    have c2b1 : (a0.toList != ([47] : List UInt8)) = false := bne_eq_false_iff_eq.mpr c2
    clear c2
    obtain rfl := Option.some.inj H
    go_enter Tryd.func24, Tryd.ntmps24
    go_wp2
    go_ret
    exact ⟨by first | rfl | (simp; done) | (simp [*]; done), by repeat (first | exact Drawn0.refl _ | apply Drawn0.step)⟩
  · rw [if_neg c2] at H
    have c2b0 : (a0.toList == ([47] : List UInt8)) = false := beq_eq_false_iff_ne.mpr c2
    have c2b1 : (a0.toList != ([47] : List UInt8)) = true := bne_iff_ne.mpr c2
    have HC3 := Aside0.mk H
    clear H
    go_enter Tryd.func24, Tryd.ntmps24
    go_upto_region 3 with (fail)
    go_cut [20] (fun v20 wc => ∃ (kq : Nat) (x20_2 : Bool), v20 = .bool x20_2 ∧ Aside0 (spec_ValidPath.j0 kq a0 x20_2 = some r) ∧ Aside0 (kq ≤ k) ∧ Drawn0 w wc)
    case first =>
      have H := HC3.out
      clear HC3
      by_cases c4 : a0.toList = ([] : List UInt8)
      · rw [if_pos c4] at H
        have c4b0 : (a0.toList == ([] : List UInt8)) = true := beq_iff_eq.mpr c4
        have c4b1 : (a0.toList != ([] : List UInt8)) = false := bne_eq_false_iff_eq.mpr c4
        clear c4
        (first | rw [c4b0] | (simp only [i64_w, i32_w]; rw [c4b0]) | skip)
        have H' := Aside0.mk H
        clear H
        go_wp2
        go_meet
        case rel => exact ⟨_, (true), (by first | rfl | (simp; done) | (simp [*]; done)), H', ⟨by first | omega | exact Nat.le_refl _⟩, by repeat (first | exact Drawn0.refl _ | apply Drawn0.step)⟩
      · rw [if_neg c4] at H
        have c4b0 : (a0.toList == ([] : List UInt8)) = false := beq_eq_false_iff_ne.mpr c4
        have c4b1 : (a0.toList != ([] : List UInt8)) = true := bne_iff_ne.mpr c4
        (first | rw [c4b0] | (simp only [i64_w, i32_w]; rw [c4b0]) | skip)
        by_cases c5 : 0 < (a0.size : Int)
        · rw [if_pos c5] at H
          have c5b0 : decide (0 < (a0.size : Int)) = true := decide_eq_true c5
          have c5b1 : decide (0 < a0.size) = true := decide_eq_true (by omega)
          clear c5
          by_cases c7 : (bt a0 0) = 47
          · rw [if_pos c7] at H
            have c7b0 : ((bt a0 0) == 47) = true := beq_iff_eq.mpr c7
            have c7b1 : ((bt a0 0) != 47) = false := bne_eq_false_iff_eq.mpr c7
            clear c7
            obtain ⟨ji8, hji8⟩ : ∃ j_ : Int, (wrap64 ((a0.size : Int) - 1)) = j_ := ⟨_, rfl⟩
            replace H : (if 0 ≤ (ji8) then (if (ji8) < (a0.size : Int) then (spec_ValidPath.j0 k a0 ((bt a0 (ji8)) == 47)) else (none)) else (none)) = some r := by first | (rw [hji8] at H; exact H) | (simp only [hji8] at H ⊢; exact H)
            have hji8w : (IntKind.i64.wrap ((a0.size : Int) - 1)) = ji8 := (i64_w _).trans hji8
            by_cases c9 : 0 ≤ (ji8)
            · rw [if_pos c9] at H
              have c9b0 : decide (0 ≤ (ji8)) = true := decide_eq_true c9
              clear c9
              by_cases c10 : (ji8) < (a0.size : Int)
              · rw [if_pos c10] at H
                have c10b0 : decide ((ji8) < (a0.size : Int)) = true := decide_eq_true c10
                clear c10
                have H' := Aside0.mk H
                clear H
                have p6 : 0 ≤ (0 : Int) := (by omega)
                have q6 : 0 < a0.size := (by have : (0 : Int) < (a0.size : Int) := of_decide_eq_true (by first | (with_reducible assumption) | assumption); omega)
                have hx6 : ∀ h : 0 < a0.size, ((a0[0]'h).toNat : Int) = bt a0 0 := bt_at a0 0
                clear p6
                have qi6 : (0 < (a0.size : Int)) = True := eq_true (of_decide_eq_true (by first | (with_reducible assumption) | assumption))
                replace q6 := eq_true q6
                have p11 : 0 ≤ ((ji8) : Int) := of_decide_eq_true (by first | (with_reducible assumption) | assumption)
                have q11 : (ji8) < (a0.size : Int) := of_decide_eq_true (by first | (with_reducible assumption) | assumption)
                have hx11 := bt_at a0 (ji8)
                replace p11 := eq_true p11
                replace q11 := eq_true q11
                go_wp2
                go_meet
                case rel => exact ⟨_, (((bt a0 (ji8)) == 47)), (by first | rfl | (simp; done) | (simp only [← hji8] <;> (first | rfl | simp)) | (simp [*]; done)), H', ⟨by first | omega | exact Nat.le_refl _⟩, by repeat (first | exact Drawn0.refl _ | apply Drawn0.step)⟩
              · rw [if_neg c10] at H
                exact absurd H (by simp)
            · rw [if_neg c9] at H
              exact absurd H (by simp)
          · rw [if_neg c7] at H
            have c7b0 : ((bt a0 0) == 47) = false := beq_eq_false_iff_ne.mpr c7
            have c7b1 : ((bt a0 0) != 47) = true := bne_iff_ne.mpr c7
            have H' := Aside0.mk H
            clear H
            have p6 : 0 ≤ (0 : Int) := (by omega)
            have q6 : 0 < a0.size := (by have : (0 : Int) < (a0.size : Int) := of_decide_eq_true (by first | (with_reducible assumption) | assumption); omega)
            have hx6 : ∀ h : 0 < a0.size, ((a0[0]'h).toNat : Int) = bt a0 0 := bt_at a0 0
            clear p6
            have qi6 : (0 < (a0.size : Int)) = True := eq_true (of_decide_eq_true (by first | (with_reducible assumption) | assumption))
            replace q6 := eq_true q6
            go_wp2
            go_meet
            case rel => exact ⟨_, (true), (by first | rfl | (simp; done) | (simp [*]; done)), H', ⟨by first | omega | exact Nat.le_refl _⟩, by repeat (first | exact Drawn0.refl _ | apply Drawn0.step)⟩
        · rw [if_neg c5] at H
          exact absurd H (by simp)
    case rest =>
      clear HC3
      try clear c1
      try clear p1
      try clear q1
      try clear hx1
      try clear c2
      try clear c2b0
      try clear c2b1
      try clear p2
      try clear c4
      try clear c4b0
      try clear c4b1
      try clear c5
      try clear c5b0
      try clear c5b1
      try clear p6
      try clear q6
      try clear hx6
      try clear qi6
      try clear c7
      try clear c7b0
      try clear c7b1
      try clear c9
      try clear c9b0
      try clear c10
      try clear c10b0
      try clear p11
      try clear q11
      try clear hx11
      try clear p11
      try clear p6
      try clear q11
      try clear q6
      obtain ⟨kq, x20_2, rfl, HA, HJ2, ⟨mc2, rfl⟩⟩ := hcut
      cases kq with
      | zero => exact absurd HA.out (by simp [spec_ValidPath.j0])
      | succ kj2 =>
        have H := HA.out
        clear HA
        simp only [spec_ValidPath.j0] at H
        by_cases c12 : x20_2 = true
        · subst c12
          have H1 : (some false) = some r := by rw [if_pos rfl] at H; exact H
          clear H
          have H := H1
          clear H1
          obtain rfl := Option.some.inj H
          go_wp2
          go_ret
          exact ⟨by first | rfl | (simp; done) | (simp [*]; done), by repeat (first | exact Drawn0.refl _ | apply Drawn0.step)⟩
        · replace c12 := Bool.eq_false_iff.mpr c12
          subst c12
          have H1 : (spec_ValidPath.l0 kj2 a0 1) = some r := by rw [if_neg (show ¬ (false = true) by decide)] at H; exact H
          clear H
          have H := H1
          clear H1
          have H' := Aside0.mk H
          clear H
          go_wp2
          go_loopg [3] kj2 (fun kq v3 w' => ∃ (x3_2 : Int), v3 = .int .i64 x3_2 ∧ Aside0 (spec_ValidPath.l0 kq a0 x3_2 = some r) ∧ Aside0 (kq ≤ kj2) ∧ Drawn0 w w')
          case atStart => exact ⟨(1), (by first | rfl | (simp; done) | (simp [*]; done)), H', ⟨Nat.le_refl _⟩, by repeat (first | exact Drawn0.refl _ | apply Drawn0.step)⟩
          case round =>
            clear H'
            try clear c1
            try clear p1
            try clear q1
            try clear hx1
            try clear c2
            try clear c2b0
            try clear c2b1
            try clear p2
            try clear c4
            try clear c4b0
            try clear c4b1
            try clear c5
            try clear c5b0
            try clear c5b1
            try clear p6
            try clear q6
            try clear hx6
            try clear qi6
            try clear c7
            try clear c7b0
            try clear c7b1
            try clear c9
            try clear c9b0
            try clear c10
            try clear c10b0
            try clear p11
            try clear q11
            try clear hx11
            try clear c12
            try clear p1
            try clear p11
            try clear p2
            try clear p6
            try clear q1
            try clear q11
            try clear q6
            obtain ⟨x3_2, rfl, HA, HK2, ⟨m2, rfl⟩⟩ := hrel
            cases gk with
            | zero => exact absurd HA.out (by simp [spec_ValidPath.l0])
            | succ k2 =>
              have H := HA.out
              clear HA
              simp only [spec_ValidPath.l0] at H
              by_cases c13 : x3_2 < (a0.size : Int)
              · rw [if_pos c13] at H
                have c13b0 : decide (x3_2 < (a0.size : Int)) = true := decide_eq_true c13
                clear c13
                by_cases c14 : 0 ≤ x3_2
                · rw [if_pos c14] at H
                  have c14b0 : decide (0 ≤ x3_2) = true := decide_eq_true c14
                  clear c14
                  by_cases c16 : (bt a0 x3_2) = 47
                  · rw [if_pos c16] at H
                    have c16b0 : ((bt a0 x3_2) == 47) = true := beq_iff_eq.mpr c16
                    have c16b1 : ((bt a0 x3_2) != 47) = false := bne_eq_false_iff_eq.mpr c16
                    clear c16
                    obtain ⟨ji18, hji18⟩ : ∃ j_ : Int, (wrap64 (x3_2 - 1)) = j_ := ⟨_, rfl⟩
                    replace H : (if 0 ≤ (ji18) then (if (ji18) < (a0.size : Int) then (if (bt a0 (ji18)) = 47 then (some false) else (spec_ValidPath.l0 k2 a0 (wrap64 (x3_2 + 1)))) else (none)) else (none)) = some r := by first | (rw [hji18] at H; exact H) | (simp only [hji18] at H ⊢; exact H)
                    have hji18w : (IntKind.i64.wrap (x3_2 - 1)) = ji18 := (i64_w _).trans hji18
                    by_cases c19 : 0 ≤ (ji18)
                    · rw [if_pos c19] at H
                      have c19b0 : decide (0 ≤ (ji18)) = true := decide_eq_true c19
                      clear c19
                      by_cases c20 : (ji18) < (a0.size : Int)
                      · rw [if_pos c20] at H
                        have c20b0 : decide ((ji18) < (a0.size : Int)) = true := decide_eq_true c20
                        clear c20
                        by_cases c22 : (bt a0 (ji18)) = 47
                        · rw [if_pos c22] at H
                          have c22b0 : ((bt a0 (ji18)) == 47) = true := beq_iff_eq.mpr c22
                          have c22b1 : ((bt a0 (ji18)) != 47) = false := bne_eq_false_iff_eq.mpr c22
                          clear c22
                          obtain rfl := Option.some.inj H
                          have p15 : 0 ≤ (x3_2 : Int) := of_decide_eq_true (by first | (with_reducible assumption) | assumption)
                          have q15 : x3_2 < (a0.size : Int) := of_decide_eq_true (by first | (with_reducible assumption) | assumption)
                          have hx15 := bt_at a0 x3_2
                          replace p15 := eq_true p15
                          replace q15 := eq_true q15
                          have p17 : 0 ≤ (x3_2 : Int) := of_decide_eq_true (by first | (with_reducible assumption) | assumption)
                          have q17 : x3_2 < (a0.size : Int) := of_decide_eq_true (by first | (with_reducible assumption) | assumption)
                          have hx17 := bt_at a0 x3_2
                          replace p17 := eq_true p17
                          replace q17 := eq_true q17
                          have p21 : 0 ≤ ((ji18) : Int) := of_decide_eq_true (by first | (with_reducible assumption) | assumption)
                          have q21 : (ji18) < (a0.size : Int) := of_decide_eq_true (by first | (with_reducible assumption) | assumption)
                          have hx21 := bt_at a0 (ji18)
                          replace p21 := eq_true p21
                          replace q21 := eq_true q21
                          go_wp2
                          go_ret
                          exact ⟨by first | rfl | (simp; done) | (simp only [← hji18] <;> (first | rfl | simp)) | (simp [*]; done), by repeat (first | exact Drawn0.refl _ | apply Drawn0.step)⟩
                        · rw [if_neg c22] at H
                          have c22b0 : ((bt a0 (ji18)) == 47) = false := beq_eq_false_iff_ne.mpr c22
                          have c22b1 : ((bt a0 (ji18)) != 47) = true := bne_iff_ne.mpr c22
                          have H' := Aside0.mk H
                          clear H
                          have p15 : 0 ≤ (x3_2 : Int) := of_decide_eq_true (by first | (with_reducible assumption) | assumption)
                          have q15 : x3_2 < (a0.size : Int) := of_decide_eq_true (by first | (with_reducible assumption) | assumption)
                          have hx15 := bt_at a0 x3_2
                          replace p15 := eq_true p15
                          replace q15 := eq_true q15
                          have p17 : 0 ≤ (x3_2 : Int) := of_decide_eq_true (by first | (with_reducible assumption) | assumption)
                          have q17 : x3_2 < (a0.size : Int) := of_decide_eq_true (by first | (with_reducible assumption) | assumption)
                          have hx17 := bt_at a0 x3_2
                          replace p17 := eq_true p17
                          replace q17 := eq_true q17
                          have p21 : 0 ≤ ((ji18) : Int) := of_decide_eq_true (by first | (with_reducible assumption) | assumption)
                          have q21 : (ji18) < (a0.size : Int) := of_decide_eq_true (by first | (with_reducible assumption) | assumption)
                          have hx21 := bt_at a0 (ji18)
                          replace p21 := eq_true p21
                          replace q21 := eq_true q21
                          go_wp2
                          go_roundg k2
                          case measure => have := HJ2.out; have := HK2.out; omega
                          case rel => exact ⟨(wrap64 (x3_2 + 1)), (by first | rfl | (simp; done) | (simp [*]; done)), H', ⟨by have := HJ2.out; have := HK2.out; omega⟩, by repeat (first | exact Drawn0.refl _ | apply Drawn0.step)⟩
                      · rw [if_neg c20] at H
                        exact absurd H (by simp)
                    · rw [if_neg c19] at H
                      exact absurd H (by simp)
                  · rw [if_neg c16] at H
                    have c16b0 : ((bt a0 x3_2) == 47) = false := beq_eq_false_iff_ne.mpr c16
                    have c16b1 : ((bt a0 x3_2) != 47) = true := bne_iff_ne.mpr c16
                    replace H := Option.bind_eq_some_iff.mp H
                    obtain ⟨t144, A240, H⟩ := H
                    replace H : (if t144 = true then (spec_ValidPath.l0 k2 a0 (wrap64 (x3_2 + 1))) else (some false)) = some r := H
                    have A24 := Aside0.mk A240
                    clear A240
                    by_cases c25 : t144 = true
                    · subst c25
                      have H1 : (spec_ValidPath.l0 k2 a0 (wrap64 (x3_2 + 1))) = some r := by rw [if_pos rfl] at H; exact H
                      clear H
                      have H := H1
                      clear H1
                      have H' := Aside0.mk H
                      clear H
                      have p15 : 0 ≤ (x3_2 : Int) := of_decide_eq_true (by first | (with_reducible assumption) | assumption)
                      have q15 : x3_2 < (a0.size : Int) := of_decide_eq_true (by first | (with_reducible assumption) | assumption)
                      have hx15 := bt_at a0 x3_2
                      replace p15 := eq_true p15
                      replace q15 := eq_true q15
                      have p23 : 0 ≤ (x3_2 : Int) := of_decide_eq_true (by first | (with_reducible assumption) | assumption)
                      have q23 : x3_2 < (a0.size : Int) := of_decide_eq_true (by first | (with_reducible assumption) | assumption)
                      have hx23 := bt_at a0 x3_2
                      replace p23 := eq_true p23
                      replace q23 := eq_true q23
                      go_wp2_with (first | (go_at_call 32; (with_reducible refine (spec_word.calls (bt a0 x3_2) true _ A24.out).mono ?_); rintro e w' ⟨rfl, ⟨nd, rfl⟩⟩; have p26 : 0 ≤ (x3_2 : Int) := of_decide_eq_true (by first | (with_reducible assumption) | assumption); have q26 : x3_2 < (a0.size : Int) := of_decide_eq_true (by first | (with_reducible assumption) | assumption); have hx26 := bt_at a0 x3_2; replace p26 := eq_true p26; replace q26 := eq_true q26))
                      go_roundg k2
                      case measure => have := HJ2.out; have := HK2.out; omega
                      case rel => exact ⟨(wrap64 (x3_2 + 1)), (by first | rfl | (simp; done) | (simp [*]; done)), H', ⟨by have := HJ2.out; have := HK2.out; omega⟩, by repeat (first | exact Drawn0.refl _ | apply Drawn0.step)⟩
                    · replace c25 := Bool.eq_false_iff.mpr c25
                      subst c25
                      have H1 : (some false) = some r := by rw [if_neg (show ¬ (false = true) by decide)] at H; exact H
                      clear H
                      have H := H1
                      clear H1
                      obtain rfl := Option.some.inj H
                      have p15 : 0 ≤ (x3_2 : Int) := of_decide_eq_true (by first | (with_reducible assumption) | assumption)
                      have q15 : x3_2 < (a0.size : Int) := of_decide_eq_true (by first | (with_reducible assumption) | assumption)
                      have hx15 := bt_at a0 x3_2
                      replace p15 := eq_true p15
                      replace q15 := eq_true q15
                      have p23 : 0 ≤ (x3_2 : Int) := of_decide_eq_true (by first | (with_reducible assumption) | assumption)
                      have q23 : x3_2 < (a0.size : Int) := of_decide_eq_true (by first | (with_reducible assumption) | assumption)
                      have hx23 := bt_at a0 x3_2
                      replace p23 := eq_true p23
                      replace q23 := eq_true q23
                      go_wp2_with (first | (go_at_call 32; (with_reducible refine (spec_word.calls (bt a0 x3_2) false _ A24.out).mono ?_); rintro e w' ⟨rfl, ⟨nd, rfl⟩⟩))
                      go_ret
                      exact ⟨by first | rfl | (simp; done) | (simp [*]; done), by repeat (first | exact Drawn0.refl _ | apply Drawn0.step)⟩
                · rw [if_neg c14] at H
                  exact absurd H (by simp)
              · rw [if_neg c13] at H
                have c13b0 : decide (x3_2 < (a0.size : Int)) = false := decide_eq_false c13
                clear c13
                obtain rfl := Option.some.inj H
                go_wp2
                go_ret
                exact ⟨by first | rfl | (simp; done) | (simp [*]; done), by repeat (first | exact Drawn0.refl _ | apply Drawn0.step)⟩
def spec_First.j0 : Nat → ByteArray → Bool → Option (ByteArray × ByteArray × Bool)
  | 0, _, _ => none
  | k + 1, x0, x13 => if x13 = true then (if 1 + x0.size ≤ 9223372036854775807 then ((spec_complete.f k ((⟨#[97]⟩ : ByteArray) ++ x0)).bind fun t145 => (if (wrap64 (t145 - 1)) ≤ 0 then (some ((⟨#[]⟩ : ByteArray), (⟨#[]⟩ : ByteArray), false)) else (if 0 ≤ (wrap64 (t145 - 1)) then (if (wrap64 (t145 - 1)) ≤ (x0.size : Int) then (some (x0.extract 0 ((wrap64 (t145 - 1)) : Int).toNat, x0.extract ((wrap64 (t145 - 1)) : Int).toNat x0.size, true)) else (none)) else (none)))) else (none)) else ((spec_complete.f k x0).bind fun t146 => (if t146 ≤ 0 then (some ((⟨#[]⟩ : ByteArray), (⟨#[]⟩ : ByteArray), false)) else (if 0 ≤ t146 then (if t146 ≤ (x0.size : Int) then (some (x0.extract 0 (t146 : Int).toNat, x0.extract (t146 : Int).toNat x0.size, true)) else (none)) else (none))))
def spec_First.f (k : Nat) (a0 : ByteArray) : Option (ByteArray × ByteArray × Bool) := if (a0.size : Int) > 1 then (if 0 < (a0.size : Int) then (spec_First.j0 k a0 ((bt a0 0) == 123)) else (none)) else (spec_First.j0 k a0 false)
set_option maxHeartbeats 8000000 in
set_option maxRecDepth 100000 in
theorem spec_First.calls (k : Nat) (a0 : ByteArray) (r1 : ByteArray) (r2 : ByteArray) (r3 : Bool) (w : World) (h : spec_First.f k a0 = some (r1, r2, r3)) :
    Calls Tryd.prog 25 #[.string a0] w fun e w' => e = .returned (.tuple #[.string r1, .string r2, .bool r3]) ∧ Drawn0 w w' := by
  have H : (if (a0.size : Int) > 1 then (if 0 < (a0.size : Int) then (spec_First.j0 k a0 ((bt a0 0) == 123)) else (none)) else (spec_First.j0 k a0 false)) = some (r1, r2, r3) := h
  clear h
  have HC2 := Aside0.mk H
  clear H
  go_enter Tryd.func25, Tryd.ntmps25
  go_upto_region 2 with (fail)
  repeat (go_quiet (fail); go_upto_region 2 with (fail))
  go_cut [13] (fun v13 wc => ∃ (kq : Nat) (x13_1 : Bool), v13 = .bool x13_1 ∧ Aside0 (spec_First.j0 kq a0 x13_1 = some (r1, r2, r3)) ∧ Aside0 (kq ≤ k) ∧ Drawn0 w wc)
  case first =>
    have H := HC2.out
    clear HC2
    by_cases c3 : (a0.size : Int) > 1
    · rw [if_pos c3] at H
      have c3b0 : decide (1 < (a0.size : Int)) = true := decide_eq_true c3
      have c3b1 : decide (1 < a0.size) = true := decide_eq_true (by omega)
      clear c3
      (first | rw [c3b0] | (simp only [i64_w, i32_w]; rw [c3b0]) | skip)
      by_cases c4 : 0 < (a0.size : Int)
      · rw [if_pos c4] at H
        have c4b0 : decide (0 < (a0.size : Int)) = true := decide_eq_true c4
        have c4b1 : decide (0 < a0.size) = true := decide_eq_true (by omega)
        clear c4
        have H' := Aside0.mk H
        clear H
        have p5 : 0 ≤ (0 : Int) := (by omega)
        have q5 : 0 < a0.size := (by have : (0 : Int) < (a0.size : Int) := of_decide_eq_true (by first | (with_reducible assumption) | assumption); omega)
        have hx5 : ∀ h : 0 < a0.size, ((a0[0]'h).toNat : Int) = bt a0 0 := bt_at a0 0
        clear p5
        have qi5 : (0 < (a0.size : Int)) = True := eq_true (of_decide_eq_true (by first | (with_reducible assumption) | assumption))
        replace q5 := eq_true q5
        go_wp2
        repeat (go_quiet (fail); try go_wp2)
        go_meet
        case rel => exact ⟨_, (((bt a0 0) == 123)), (by first | rfl | (simp; done) | (simp [*]; done)), H', ⟨by first | omega | exact Nat.le_refl _⟩, by repeat (first | exact Drawn0.refl _ | apply Drawn0.step)⟩
      · rw [if_neg c4] at H
        exact absurd H (by simp)
    · rw [if_neg c3] at H
      have c3b0 : decide (1 < (a0.size : Int)) = false := decide_eq_false c3
      have c3b1 : decide (1 < a0.size) = false := decide_eq_false (by omega)
      clear c3
      (first | rw [c3b0] | (simp only [i64_w, i32_w]; rw [c3b0]) | skip)
      have H' := Aside0.mk H
      clear H
      go_wp2
      repeat (go_quiet (fail); try go_wp2)
      go_meet
      case rel => exact ⟨_, (false), (by first | rfl | (simp; done) | (simp [*]; done)), H', ⟨by first | omega | exact Nat.le_refl _⟩, by repeat (first | exact Drawn0.refl _ | apply Drawn0.step)⟩
  case rest =>
    clear HC2
    try clear c2
    try clear p2
    try clear c3
    try clear c3b0
    try clear c3b1
    try clear c4
    try clear c4b0
    try clear c4b1
    try clear p5
    try clear q5
    try clear hx5
    try clear qi5
    try clear p5
    try clear q5
    obtain ⟨kq, x13_1, rfl, HA, HJ1, ⟨mc1, rfl⟩⟩ := hcut
    cases kq with
    | zero => exact absurd HA.out (by simp [spec_First.j0])
    | succ kj1 =>
      have H := HA.out
      clear HA
      simp only [spec_First.j0] at H
      by_cases c6 : x13_1 = true
      · subst c6
        have H1 : (if 1 + a0.size ≤ 9223372036854775807 then ((spec_complete.f kj1 ((⟨#[97]⟩ : ByteArray) ++ a0)).bind fun t145 => (if (wrap64 (t145 - 1)) ≤ 0 then (some ((⟨#[]⟩ : ByteArray), (⟨#[]⟩ : ByteArray), false)) else (if 0 ≤ (wrap64 (t145 - 1)) then (if (wrap64 (t145 - 1)) ≤ (a0.size : Int) then (some (a0.extract 0 ((wrap64 (t145 - 1)) : Int).toNat, a0.extract ((wrap64 (t145 - 1)) : Int).toNat a0.size, true)) else (none)) else (none)))) else (none)) = some (r1, r2, r3) := by rw [if_pos rfl] at H; exact H
        clear H
        have H := H1
        clear H1
        by_cases c7 : 1 + a0.size ≤ 9223372036854775807
        · rw [if_pos c7] at H
          have c7b0 := eq_true c7
          have c7b1 : decide (1 + a0.size ≤ 9223372036854775807) = true := decide_eq_true c7
          try have c7b2 : (9223372036854775807 < 1 + a0.size) = False := eq_false (Nat.not_lt.2 c7)
          replace H := Option.bind_eq_some_iff.mp H
          obtain ⟨t145, A80, H⟩ := H
          replace H : (if (wrap64 (t145 - 1)) ≤ 0 then (some ((⟨#[]⟩ : ByteArray), (⟨#[]⟩ : ByteArray), false)) else (if 0 ≤ (wrap64 (t145 - 1)) then (if (wrap64 (t145 - 1)) ≤ (a0.size : Int) then (some (a0.extract 0 ((wrap64 (t145 - 1)) : Int).toNat, a0.extract ((wrap64 (t145 - 1)) : Int).toNat a0.size, true)) else (none)) else (none))) = some (r1, r2, r3) := H
          have A8 := Aside0.mk A80
          clear A80
          by_cases c9 : (wrap64 (t145 - 1)) ≤ 0
          · rw [if_pos c9] at H
            have c9b0 : decide ((wrap64 (t145 - 1)) ≤ 0) = true := decide_eq_true c9
            clear c9
            simp only [Option.some.injEq, Prod.mk.injEq] at H
            obtain ⟨rfl, rfl, rfl⟩ := H
            go_wp2_with (first | (go_at_call 30; (with_reducible refine (spec_complete.calls kj1 ((⟨#[97]⟩ : ByteArray) ++ a0) t145 _ A8.out).mono ?_); rintro e w' ⟨rfl, ⟨nd, rfl⟩⟩; (try first | exact ⟨rfl, _, World.drewN_drewN _ _ _⟩ | exact ⟨rfl, _, Eq.trans (World.drewN_drewN _ _ _) (congrArg (World.drewN _) (Nat.add_assoc _ _ _))⟩)))
            repeat (go_quiet (first | (go_at_call 30; (with_reducible refine (spec_complete.calls kj1 ((⟨#[97]⟩ : ByteArray) ++ a0) t145 _ A8.out).mono ?_); rintro e w' ⟨rfl, ⟨nd, rfl⟩⟩; (try first | exact ⟨rfl, _, World.drewN_drewN _ _ _⟩ | exact ⟨rfl, _, Eq.trans (World.drewN_drewN _ _ _) (congrArg (World.drewN _) (Nat.add_assoc _ _ _))⟩))); try go_wp2_with (first | (go_at_call 30; (with_reducible refine (spec_complete.calls kj1 ((⟨#[97]⟩ : ByteArray) ++ a0) t145 _ A8.out).mono ?_); rintro e w' ⟨rfl, ⟨nd, rfl⟩⟩; (try first | exact ⟨rfl, _, World.drewN_drewN _ _ _⟩ | exact ⟨rfl, _, Eq.trans (World.drewN_drewN _ _ _) (congrArg (World.drewN _) (Nat.add_assoc _ _ _))⟩))))
            go_ret3
            exact ⟨by first | rfl | (simp; done) | (simp [*]; done), by repeat (first | exact Drawn0.refl _ | apply Drawn0.step)⟩
          · rw [if_neg c9] at H
            have c9b0 : decide ((wrap64 (t145 - 1)) ≤ 0) = false := decide_eq_false c9
            clear c9
            obtain ⟨ji10, hji10⟩ : ∃ j_ : Int, (wrap64 (t145 - 1)) = j_ := ⟨_, rfl⟩
            replace H : (if 0 ≤ (ji10) then (if (ji10) ≤ (a0.size : Int) then (some (a0.extract 0 ((ji10) : Int).toNat, a0.extract ((ji10) : Int).toNat a0.size, true)) else (none)) else (none)) = some (r1, r2, r3) := by first | (rw [hji10] at H; exact H) | (simp only [hji10] at H ⊢; exact H)
            (try rw [hji10] at c9b0)
            (try rw [hji10] at A8)
            have hji10w : (IntKind.i64.wrap (t145 - 1)) = ji10 := (i64_w _).trans hji10
            by_cases c11 : 0 ≤ (ji10)
            · rw [if_pos c11] at H
              have c11b0 := eq_true c11
              have c11b1 : decide (0 ≤ (ji10)) = true := decide_eq_true c11
              clear c11
              by_cases c12 : (ji10) ≤ (a0.size : Int)
              · rw [if_pos c12] at H
                have c12b0 := eq_true c12
                have c12b1 : decide ((ji10) ≤ (a0.size : Int)) = true := decide_eq_true c12
                clear c12
                have c13b0 := eq_true (of_decide_eq_true (by first | (with_reducible assumption) | assumption) : 0 ≤ (ji10))
                have c14b0 := eq_true (of_decide_eq_true (by first | (with_reducible assumption) | assumption) : (ji10) ≤ (a0.size : Int))
                simp only [Option.some.injEq, Prod.mk.injEq] at H
                obtain ⟨rfl, rfl, rfl⟩ := H
                go_wp2_with (first | (go_at_call 30; (with_reducible refine (spec_complete.calls kj1 ((⟨#[97]⟩ : ByteArray) ++ a0) t145 _ A8.out).mono ?_); rintro e w' ⟨rfl, ⟨nd, rfl⟩⟩; (try first | exact ⟨rfl, _, World.drewN_drewN _ _ _⟩ | exact ⟨rfl, _, Eq.trans (World.drewN_drewN _ _ _) (congrArg (World.drewN _) (Nat.add_assoc _ _ _))⟩)))
                repeat (go_quiet (first | (go_at_call 30; (with_reducible refine (spec_complete.calls kj1 ((⟨#[97]⟩ : ByteArray) ++ a0) t145 _ A8.out).mono ?_); rintro e w' ⟨rfl, ⟨nd, rfl⟩⟩; (try first | exact ⟨rfl, _, World.drewN_drewN _ _ _⟩ | exact ⟨rfl, _, Eq.trans (World.drewN_drewN _ _ _) (congrArg (World.drewN _) (Nat.add_assoc _ _ _))⟩))); try go_wp2_with (first | (go_at_call 30; (with_reducible refine (spec_complete.calls kj1 ((⟨#[97]⟩ : ByteArray) ++ a0) t145 _ A8.out).mono ?_); rintro e w' ⟨rfl, ⟨nd, rfl⟩⟩; (try first | exact ⟨rfl, _, World.drewN_drewN _ _ _⟩ | exact ⟨rfl, _, Eq.trans (World.drewN_drewN _ _ _) (congrArg (World.drewN _) (Nat.add_assoc _ _ _))⟩))))
                go_ret3
                exact ⟨by first | rfl | (simp; done) | (simp only [← hji10] <;> (first | rfl | simp)) | (simp [*]; done), by repeat (first | exact Drawn0.refl _ | apply Drawn0.step)⟩
              · rw [if_neg c12] at H
                exact absurd H (by simp)
            · rw [if_neg c11] at H
              exact absurd H (by simp)
        · rw [if_neg c7] at H
          exact absurd H (by simp)
      · replace c6 := Bool.eq_false_iff.mpr c6
        subst c6
        have H1 : ((spec_complete.f kj1 a0).bind fun t146 => (if t146 ≤ 0 then (some ((⟨#[]⟩ : ByteArray), (⟨#[]⟩ : ByteArray), false)) else (if 0 ≤ t146 then (if t146 ≤ (a0.size : Int) then (some (a0.extract 0 (t146 : Int).toNat, a0.extract (t146 : Int).toNat a0.size, true)) else (none)) else (none)))) = some (r1, r2, r3) := by rw [if_neg (show ¬ (false = true) by decide)] at H; exact H
        clear H
        have H := H1
        clear H1
        replace H := Option.bind_eq_some_iff.mp H
        obtain ⟨t146, A150, H⟩ := H
        replace H : (if t146 ≤ 0 then (some ((⟨#[]⟩ : ByteArray), (⟨#[]⟩ : ByteArray), false)) else (if 0 ≤ t146 then (if t146 ≤ (a0.size : Int) then (some (a0.extract 0 (t146 : Int).toNat, a0.extract (t146 : Int).toNat a0.size, true)) else (none)) else (none))) = some (r1, r2, r3) := H
        have A15 := Aside0.mk A150
        clear A150
        by_cases c16 : t146 ≤ 0
        · rw [if_pos c16] at H
          have c16b0 : decide (t146 ≤ 0) = true := decide_eq_true c16
          clear c16
          simp only [Option.some.injEq, Prod.mk.injEq] at H
          obtain ⟨rfl, rfl, rfl⟩ := H
          go_wp2_with (first | (go_at_call 30; (with_reducible refine (spec_complete.calls kj1 a0 t146 _ A15.out).mono ?_); rintro e w' ⟨rfl, ⟨nd, rfl⟩⟩; (try first | exact ⟨rfl, _, World.drewN_drewN _ _ _⟩ | exact ⟨rfl, _, Eq.trans (World.drewN_drewN _ _ _) (congrArg (World.drewN _) (Nat.add_assoc _ _ _))⟩)))
          repeat (go_quiet (first | (go_at_call 30; (with_reducible refine (spec_complete.calls kj1 a0 t146 _ A15.out).mono ?_); rintro e w' ⟨rfl, ⟨nd, rfl⟩⟩; (try first | exact ⟨rfl, _, World.drewN_drewN _ _ _⟩ | exact ⟨rfl, _, Eq.trans (World.drewN_drewN _ _ _) (congrArg (World.drewN _) (Nat.add_assoc _ _ _))⟩))); try go_wp2_with (first | (go_at_call 30; (with_reducible refine (spec_complete.calls kj1 a0 t146 _ A15.out).mono ?_); rintro e w' ⟨rfl, ⟨nd, rfl⟩⟩; (try first | exact ⟨rfl, _, World.drewN_drewN _ _ _⟩ | exact ⟨rfl, _, Eq.trans (World.drewN_drewN _ _ _) (congrArg (World.drewN _) (Nat.add_assoc _ _ _))⟩))))
          go_ret3
          exact ⟨by first | rfl | (simp; done) | (simp [*]; done), by repeat (first | exact Drawn0.refl _ | apply Drawn0.step)⟩
        · rw [if_neg c16] at H
          have c16b0 : decide (t146 ≤ 0) = false := decide_eq_false c16
          clear c16
          by_cases c17 : 0 ≤ t146
          · rw [if_pos c17] at H
            have c17b0 := eq_true c17
            have c17b1 : decide (0 ≤ t146) = true := decide_eq_true c17
            clear c17
            by_cases c18 : t146 ≤ (a0.size : Int)
            · rw [if_pos c18] at H
              have c18b0 := eq_true c18
              have c18b1 : decide (t146 ≤ (a0.size : Int)) = true := decide_eq_true c18
              clear c18
              have c19b0 := eq_true (of_decide_eq_true (by first | (with_reducible assumption) | assumption) : 0 ≤ t146)
              have c20b0 := eq_true (of_decide_eq_true (by first | (with_reducible assumption) | assumption) : t146 ≤ (a0.size : Int))
              simp only [Option.some.injEq, Prod.mk.injEq] at H
              obtain ⟨rfl, rfl, rfl⟩ := H
              go_wp2_with (first | (go_at_call 30; (with_reducible refine (spec_complete.calls kj1 a0 t146 _ A15.out).mono ?_); rintro e w' ⟨rfl, ⟨nd, rfl⟩⟩; (try first | exact ⟨rfl, _, World.drewN_drewN _ _ _⟩ | exact ⟨rfl, _, Eq.trans (World.drewN_drewN _ _ _) (congrArg (World.drewN _) (Nat.add_assoc _ _ _))⟩)))
              repeat (go_quiet (first | (go_at_call 30; (with_reducible refine (spec_complete.calls kj1 a0 t146 _ A15.out).mono ?_); rintro e w' ⟨rfl, ⟨nd, rfl⟩⟩; (try first | exact ⟨rfl, _, World.drewN_drewN _ _ _⟩ | exact ⟨rfl, _, Eq.trans (World.drewN_drewN _ _ _) (congrArg (World.drewN _) (Nat.add_assoc _ _ _))⟩))); try go_wp2_with (first | (go_at_call 30; (with_reducible refine (spec_complete.calls kj1 a0 t146 _ A15.out).mono ?_); rintro e w' ⟨rfl, ⟨nd, rfl⟩⟩; (try first | exact ⟨rfl, _, World.drewN_drewN _ _ _⟩ | exact ⟨rfl, _, Eq.trans (World.drewN_drewN _ _ _) (congrArg (World.drewN _) (Nat.add_assoc _ _ _))⟩))))
              go_ret3
              exact ⟨by first | rfl | (simp; done) | (simp [*]; done), by repeat (first | exact Drawn0.refl _ | apply Drawn0.step)⟩
            · rw [if_neg c18] at H
              exact absurd H (by simp)
          · rw [if_neg c17] at H
            exact absurd H (by simp)
end Go.Proofs.YtnojjfklnihmnaaDoor.PFnSgOfParts

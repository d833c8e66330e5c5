/- Part of the proof of LawFnSgOfParts. -/
import Derived.Test.YtnojjfklnihmnaaDoorGvBd
set_option linter.unusedVariables false
set_option linter.unusedSimpArgs false
namespace Go.Proofs.YtnojjfklnihmnaaDoor.PFnSgOfParts
open Go.RowKit Go.Proofs.YtnojjfklnihmnaaDoorW.PrintWords Go.Proofs.YtnojjfklnihmnaaDoorW.PrintLast Go.Proofs.YtnojjfklnihmnaaDoorW.PrintMore
attribute [local go_sem] max2_int min2_int max_two min_two max_three min_three max_four min_four   -- for this text's walks alone
set_option linter.unusedVariables false
set_option linter.unusedSimpArgs false
mutual
def dbus_zzType_Kind.j0 : Nat → Int → Bool → Option (Int)
  | 0, _, _ => none
  | k + 1, x6, x15 => if x15 = true then (some 4) else (if x6 = 117 then (dbus_zzType_Kind.j1 k x6 (x6 == 117)) else (dbus_zzType_Kind.j1 k x6 (x6 == 104)))
def dbus_zzType_Kind.j1 : Nat → Int → Bool → Option (Int)
  | 0, _, _ => none
  | k + 1, x6, x18 => if x18 = true then (some 9) else (if x6 = 120 then (some 5) else (if x6 = 116 then (some 10) else (if x6 = 100 then (some 11) else (if x6 = 115 then (dbus_zzType_Kind.j2 k x6 (x6 == 115)) else (dbus_zzType_Kind.j2 k x6 (x6 == 111))))))
def dbus_zzType_Kind.j2 : Nat → Int → Bool → Option (Int)
  | 0, _, _ => none
  | k + 1, x6, x27 => if x27 = true then (some 17) else (if x6 = 91 then (some 16) else (if x6 = 123 then (some 14) else (if x6 = 42 then (some 13) else (if x6 = 103 then (some 18) else (if x6 = 118 then (some 18) else (if x6 = 40 then (some 18) else (some 0)))))))
end
def dbus_zzType_Kind.f (k : Nat) (a0 : ByteArray) : Option (Int) := if a0.toList = ([] : List UInt8) then (some 0) else (if 0 < (a0.size : Int) then (if (bt a0 0) = 121 then (some 7) else (if (bt a0 0) = 98 then (some 1) else (if (bt a0 0) = 110 then (some 3) else (if (bt a0 0) = 113 then (some 8) else (if (bt a0 0) = 105 then (dbus_zzType_Kind.j0 k (bt a0 0) ((bt a0 0) == 105)) else (dbus_zzType_Kind.j0 k (bt a0 0) ((bt a0 0) == 72))))))) else (none))
set_option maxHeartbeats 8000000 in
set_option maxRecDepth 100000 in
theorem dbus_zzType_Kind.calls (k : Nat) (a0 : ByteArray) (r : Int) (w : World) (h : dbus_zzType_Kind.f k a0 = some r) :
    Calls Tryd.prog 35 #[.string a0] w fun e w' => e = .returned (.int .i64 r) ∧ Drawn0 w w' := by
  have H : (if a0.toList = ([] : List UInt8) then (some 0) else (if 0 < (a0.size : Int) then (if (bt a0 0) = 121 then (some 7) else (if (bt a0 0) = 98 then (some 1) else (if (bt a0 0) = 110 then (some 3) else (if (bt a0 0) = 113 then (some 8) else (if (bt a0 0) = 105 then (dbus_zzType_Kind.j0 k (bt a0 0) ((bt a0 0) == 105)) else (dbus_zzType_Kind.j0 k (bt a0 0) ((bt a0 0) == 72))))))) else (none))) = some r := h
  clear h
  by_cases c2 : a0.toList = ([] : List UInt8)
  · rw [if_pos c2] at H
    have c2b0 : (a0.toList == ([] : List UInt8)) = true := beq_iff_eq.mpr c2
    have c2b1 : (a0.toList != ([] : List UInt8)) = false := bne_eq_false_iff_eq.mpr c2
    clear c2
    obtain rfl := Option.some.inj H
    go_enter Tryd.func35, Tryd.ntmps35
    go_wp2
    go_ret
    exact ⟨by first | rfl | (simp; done) | (simp [*]; done), by repeat (first | exact Drawn0.refl _ | apply Drawn0.step)⟩
  · rw [if_neg c2] at H
    have c2b0 : (a0.toList == ([] : List UInt8)) = false := beq_eq_false_iff_ne.mpr c2
    have c2b1 : (a0.toList != ([] : List UInt8)) = true := bne_iff_ne.mpr c2
    by_cases c3 : 0 < (a0.size : Int)
    · rw [if_pos c3] at H
      have c3b0 : decide (0 < (a0.size : Int)) = true := decide_eq_true c3
      have c3b1 : decide (0 < a0.size) = true := decide_eq_true (by omega)
      clear c3
      by_cases c5 : (bt a0 0) = 121
      · rw [if_pos c5] at H
        have c5b0 : ((bt a0 0) == 121) = true := beq_iff_eq.mpr c5
        have c5b1 : ((bt a0 0) != 121) = false := bne_eq_false_iff_eq.mpr c5
        clear c5
        obtain rfl := Option.some.inj H
        have p4 : 0 ≤ (0 : Int) := (by omega)
        have q4 : 0 < a0.size := (by have : (0 : Int) < (a0.size : Int) := of_decide_eq_true (by first | (with_reducible assumption) | assumption); omega)
        have hx4 : ∀ h : 0 < a0.size, ((a0[0]'h).toNat : Int) = bt a0 0 := bt_at a0 0
        clear p4
        have qi4 : (0 < (a0.size : Int)) = True := eq_true (of_decide_eq_true (by first | (with_reducible assumption) | assumption))
        replace q4 := eq_true q4
        go_enter Tryd.func35, Tryd.ntmps35
        go_wp2
        go_ret
        exact ⟨by first | rfl | (simp; done) | (simp [*]; done), by repeat (first | exact Drawn0.refl _ | apply Drawn0.step)⟩
      · rw [if_neg c5] at H
        have c5b0 : ((bt a0 0) == 121) = false := beq_eq_false_iff_ne.mpr c5
        have c5b1 : ((bt a0 0) != 121) = true := bne_iff_ne.mpr c5
        by_cases c6 : (bt a0 0) = 98
        · rw [if_pos c6] at H
          have c6b0 : ((bt a0 0) == 98) = true := beq_iff_eq.mpr c6
          have c6b1 : ((bt a0 0) != 98) = false := bne_eq_false_iff_eq.mpr c6
          clear c6
          obtain rfl := Option.some.inj H
          have p4 : 0 ≤ (0 : Int) := (by omega)
          have q4 : 0 < a0.size := (by have : (0 : Int) < (a0.size : Int) := of_decide_eq_true (by first | (with_reducible assumption) | assumption); omega)
          have hx4 : ∀ h : 0 < a0.size, ((a0[0]'h).toNat : Int) = bt a0 0 := bt_at a0 0
          clear p4
          have qi4 : (0 < (a0.size : Int)) = True := eq_true (of_decide_eq_true (by first | (with_reducible assumption) | assumption))
          replace q4 := eq_true q4
          go_enter Tryd.func35, Tryd.ntmps35
          go_wp2
          go_ret
          exact ⟨by first | rfl | (simp; done) | (simp [*]; done), by repeat (first | exact Drawn0.refl _ | apply Drawn0.step)⟩
        · rw [if_neg c6] at H
          have c6b0 : ((bt a0 0) == 98) = false := beq_eq_false_iff_ne.mpr c6
          have c6b1 : ((bt a0 0) != 98) = true := bne_iff_ne.mpr c6
          by_cases c7 : (bt a0 0) = 110
          · rw [if_pos c7] at H
            have c7b0 : ((bt a0 0) == 110) = true := beq_iff_eq.mpr c7
            have c7b1 : ((bt a0 0) != 110) = false := bne_eq_false_iff_eq.mpr c7
            clear c7
            obtain rfl := Option.some.inj H
            have p4 : 0 ≤ (0 : Int) := (by omega)
            have q4 : 0 < a0.size := (by have : (0 : Int) < (a0.size : Int) := of_decide_eq_true (by first | (with_reducible assumption) | assumption); omega)
            have hx4 : ∀ h : 0 < a0.size, ((a0[0]'h).toNat : Int) = bt a0 0 := bt_at a0 0
            clear p4
            have qi4 : (0 < (a0.size : Int)) = True := eq_true (of_decide_eq_true (by first | (with_reducible assumption) | assumption))
            replace q4 := eq_true q4
            go_enter Tryd.func35, Tryd.ntmps35
            go_wp2
            go_ret
            exact ⟨by first | rfl | (simp; done) | (simp [*]; done), by repeat (first | exact Drawn0.refl _ | apply Drawn0.step)⟩
          · rw [if_neg c7] at H
            have c7b0 : ((bt a0 0) == 110) = false := beq_eq_false_iff_ne.mpr c7
            have c7b1 : ((bt a0 0) != 110) = true := bne_iff_ne.mpr c7
            by_cases c8 : (bt a0 0) = 113
            · rw [if_pos c8] at H
              have c8b0 : ((bt a0 0) == 113) = true := beq_iff_eq.mpr c8
              have c8b1 : ((bt a0 0) != 113) = false := bne_eq_false_iff_eq.mpr c8
              clear c8
              obtain rfl := Option.some.inj H
              have p4 : 0 ≤ (0 : Int) := (by omega)
              have q4 : 0 < a0.size := (by have : (0 : Int) < (a0.size : Int) := of_decide_eq_true (by first | (with_reducible assumption) | assumption); omega)
              have hx4 : ∀ h : 0 < a0.size, ((a0[0]'h).toNat : Int) = bt a0 0 := bt_at a0 0
              clear p4
              have qi4 : (0 < (a0.size : Int)) = True := eq_true (of_decide_eq_true (by first | (with_reducible assumption) | assumption))
              replace q4 := eq_true q4
              go_enter Tryd.func35, Tryd.ntmps35
              go_wp2
              go_ret
              exact ⟨by first | rfl | (simp; done) | (simp [*]; done), by repeat (first | exact Drawn0.refl _ | apply Drawn0.step)⟩
            · rw [if_neg c8] at H
              have c8b0 : ((bt a0 0) == 113) = false := beq_eq_false_iff_ne.mpr c8
              have c8b1 : ((bt a0 0) != 113) = true := bne_iff_ne.mpr c8
              have HC9 := Aside0.mk H
              clear H
              have p4 : 0 ≤ (0 : Int) := (by omega)
              have q4 : 0 < a0.size := (by have : (0 : Int) < (a0.size : Int) := of_decide_eq_true (by first | (with_reducible assumption) | assumption); omega)
              have hx4 : ∀ h : 0 < a0.size, ((a0[0]'h).toNat : Int) = bt a0 0 := bt_at a0 0
              clear p4
              have qi4 : (0 < (a0.size : Int)) = True := eq_true (of_decide_eq_true (by first | (with_reducible assumption) | assumption))
              replace q4 := eq_true q4
              go_enter Tryd.func35, Tryd.ntmps35
              go_upto_if 15 with (fail)
              go_cut [15] (fun v15 wc => ∃ (kq : Nat) (x15_8 : Bool), v15 = .bool x15_8 ∧ Aside0 (dbus_zzType_Kind.j0 kq (bt a0 0) x15_8 = some r) ∧ Aside0 (kq ≤ k) ∧ Drawn0 w wc)
              case first =>
                have H := HC9.out
                clear HC9
                by_cases c10 : (bt a0 0) = 105
                · rw [if_pos c10] at H
                  have c10b0 : ((bt a0 0) == 105) = true := beq_iff_eq.mpr c10
                  have c10b1 : ((bt a0 0) != 105) = false := bne_eq_false_iff_eq.mpr c10
                  clear c10
                  (first | rw [c10b0] | (simp only [i64_w, i32_w]; rw [c10b0]) | skip)
                  have H' := Aside0.mk H
                  clear H
                  go_wp2
                  go_meet
                  case rel => exact ⟨_, (((bt a0 0) == 105)), (by first | rfl | (simp; done) | (simp [*]; done)), H', ⟨by first | omega | exact Nat.le_refl _⟩, by repeat (first | exact Drawn0.refl _ | apply Drawn0.step)⟩
                · rw [if_neg c10] at H
                  have c10b0 : ((bt a0 0) == 105) = false := beq_eq_false_iff_ne.mpr c10
                  have c10b1 : ((bt a0 0) != 105) = true := bne_iff_ne.mpr c10
                  (first | rw [c10b0] | (simp only [i64_w, i32_w]; rw [c10b0]) | skip)
                  have H' := Aside0.mk H
                  clear H
                  go_wp2
                  go_meet
                  case rel => exact ⟨_, (((bt a0 0) == 72)), (by first | rfl | (simp; done) | (simp [*]; done)), H', ⟨by first | omega | exact Nat.le_refl _⟩, by repeat (first | exact Drawn0.refl _ | apply Drawn0.step)⟩
              case rest =>
                clear HC9
                try clear c1
                try clear c2
                try clear c2b0
                try clear c2b1
                try clear p2
                try clear c3
                try clear c3b0
                try clear c3b1
                try clear p4
                try clear q4
                try clear hx4
                try clear qi4
                try clear c5
                try clear c5b0
                try clear c5b1
                try clear c6
                try clear c6b0
                try clear c6b1
                try clear c7
                try clear c7b0
                try clear c7b1
                try clear c8
                try clear c8b0
                try clear c8b1
                try clear c10
                try clear c10b0
                try clear c10b1
                try clear p4
                try clear q4
                obtain ⟨kq, x15_8, rfl, HA, HJ8, ⟨mc8, rfl⟩⟩ := hcut
                cases kq with
                | zero => exact absurd HA.out (by simp [dbus_zzType_Kind.j0])
                | succ kj8 =>
                  have H := HA.out
                  clear HA
                  simp only [dbus_zzType_Kind.j0] at H
                  by_cases c11 : x15_8 = true
                  · subst c11
                    have H1 : (some 4) = some r := by rw [if_pos rfl] at H; exact H
                    clear H
                    have H := H1
                    clear H1
                    obtain rfl := Option.some.inj H
                    go_wp2
                    go_ret
                    exact ⟨by first | rfl | (simp; done) | (simp [*]; done), by repeat (first | exact Drawn0.refl _ | apply Drawn0.step)⟩
                  · replace c11 := Bool.eq_false_iff.mpr c11
                    subst c11
                    have H1 : (if (bt a0 0) = 117 then (dbus_zzType_Kind.j1 kj8 (bt a0 0) ((bt a0 0) == 117)) else (dbus_zzType_Kind.j1 kj8 (bt a0 0) ((bt a0 0) == 104))) = some r := by rw [if_neg (show ¬ (false = true) by decide)] at H; exact H
                    clear H
                    have H := H1
                    clear H1
                    have HC12 := Aside0.mk H
                    clear H
                    go_upto_if 18 with (fail)
                    go_cut [18] (fun v18 wc => ∃ (kq : Nat) (x18_11 : Bool), v18 = .bool x18_11 ∧ Aside0 (dbus_zzType_Kind.j1 kq (bt a0 0) x18_11 = some r) ∧ Aside0 (kq ≤ kj8) ∧ Drawn0 w wc)
                    case first =>
                      have H := HC12.out
                      clear HC12
                      by_cases c13 : (bt a0 0) = 117
                      · rw [if_pos c13] at H
                        have c13b0 : ((bt a0 0) == 117) = true := beq_iff_eq.mpr c13
                        have c13b1 : ((bt a0 0) != 117) = false := bne_eq_false_iff_eq.mpr c13
                        clear c13
                        (first | rw [c13b0] | (simp only [i64_w, i32_w]; rw [c13b0]) | skip)
                        have H' := Aside0.mk H
                        clear H
                        go_wp2
                        go_meet
                        case rel => exact ⟨_, (((bt a0 0) == 117)), (by first | rfl | (simp; done) | (simp [*]; done)), H', ⟨by have := HJ8.out; first | omega | exact Nat.le_refl _⟩, by repeat (first | exact Drawn0.refl _ | apply Drawn0.step)⟩
                      · rw [if_neg c13] at H
                        have c13b0 : ((bt a0 0) == 117) = false := beq_eq_false_iff_ne.mpr c13
                        have c13b1 : ((bt a0 0) != 117) = true := bne_iff_ne.mpr c13
                        (first | rw [c13b0] | (simp only [i64_w, i32_w]; rw [c13b0]) | skip)
                        have H' := Aside0.mk H
                        clear H
                        go_wp2
                        go_meet
                        case rel => exact ⟨_, (((bt a0 0) == 104)), (by first | rfl | (simp; done) | (simp [*]; done)), H', ⟨by have := HJ8.out; first | omega | exact Nat.le_refl _⟩, by repeat (first | exact Drawn0.refl _ | apply Drawn0.step)⟩
                    case rest =>
                      clear HC12
                      try clear c1
                      try clear c2
                      try clear c2b0
                      try clear c2b1
                      try clear p2
                      try clear c3
                      try clear c3b0
                      try clear c3b1
                      try clear p4
                      try clear q4
                      try clear hx4
                      try clear qi4
                      try clear c5
                      try clear c5b0
                      try clear c5b1
                      try clear c6
                      try clear c6b0
                      try clear c6b1
                      try clear c7
                      try clear c7b0
                      try clear c7b1
                      try clear c8
                      try clear c8b0
                      try clear c8b1
                      try clear c10
                      try clear c10b0
                      try clear c10b1
                      try clear c11
                      try clear c13
                      try clear c13b0
                      try clear c13b1
                      try clear p2
                      try clear p4
                      try clear q4
                      obtain ⟨kq, x18_11, rfl, HA, HJ11, ⟨mc11, rfl⟩⟩ := hcut
                      cases kq with
                      | zero => exact absurd HA.out (by simp [dbus_zzType_Kind.j1])
                      | succ kj11 =>
                        have H := HA.out
                        clear HA
                        simp only [dbus_zzType_Kind.j1] at H
                        by_cases c14 : x18_11 = true
                        · subst c14
                          have H1 : (some 9) = some r := by rw [if_pos rfl] at H; exact H
                          clear H
                          have H := H1
                          clear H1
                          obtain rfl := Option.some.inj H
                          go_wp2
                          go_ret
                          exact ⟨by first | rfl | (simp; done) | (simp [*]; done), by repeat (first | exact Drawn0.refl _ | apply Drawn0.step)⟩
                        · replace c14 := Bool.eq_false_iff.mpr c14
                          subst c14
                          have H1 : (if (bt a0 0) = 120 then (some 5) else (if (bt a0 0) = 116 then (some 10) else (if (bt a0 0) = 100 then (some 11) else (if (bt a0 0) = 115 then (dbus_zzType_Kind.j2 kj11 (bt a0 0) ((bt a0 0) == 115)) else (dbus_zzType_Kind.j2 kj11 (bt a0 0) ((bt a0 0) == 111)))))) = some r := by rw [if_neg (show ¬ (false = true) by decide)] at H; exact H
                          clear H
                          have H := H1
                          clear H1
                          by_cases c15 : (bt a0 0) = 120
                          · rw [if_pos c15] at H
                            have c15b0 : ((bt a0 0) == 120) = true := beq_iff_eq.mpr c15
                            have c15b1 : ((bt a0 0) != 120) = false := bne_eq_false_iff_eq.mpr c15
                            clear c15
                            obtain rfl := Option.some.inj H
                            go_wp2
                            go_ret
                            exact ⟨by first | rfl | (simp; done) | (simp [*]; done), by repeat (first | exact Drawn0.refl _ | apply Drawn0.step)⟩
                          · rw [if_neg c15] at H
                            have c15b0 : ((bt a0 0) == 120) = false := beq_eq_false_iff_ne.mpr c15
                            have c15b1 : ((bt a0 0) != 120) = true := bne_iff_ne.mpr c15
                            by_cases c16 : (bt a0 0) = 116
                            · rw [if_pos c16] at H
                              have c16b0 : ((bt a0 0) == 116) = true := beq_iff_eq.mpr c16
                              have c16b1 : ((bt a0 0) != 116) = false := bne_eq_false_iff_eq.mpr c16
                              clear c16
                              obtain rfl := Option.some.inj H
                              go_wp2
                              go_ret
                              exact ⟨by first | rfl | (simp; done) | (simp [*]; done), by repeat (first | exact Drawn0.refl _ | apply Drawn0.step)⟩
                            · rw [if_neg c16] at H
                              have c16b0 : ((bt a0 0) == 116) = false := beq_eq_false_iff_ne.mpr c16
                              have c16b1 : ((bt a0 0) != 116) = true := bne_iff_ne.mpr c16
                              by_cases c17 : (bt a0 0) = 100
                              · rw [if_pos c17] at H
                                have c17b0 : ((bt a0 0) == 100) = true := beq_iff_eq.mpr c17
                                have c17b1 : ((bt a0 0) != 100) = false := bne_eq_false_iff_eq.mpr c17
                                clear c17
                                obtain rfl := Option.some.inj H
                                go_wp2
                                go_ret
                                exact ⟨by first | rfl | (simp; done) | (simp [*]; done), by repeat (first | exact Drawn0.refl _ | apply Drawn0.step)⟩
                              · rw [if_neg c17] at H
                                have c17b0 : ((bt a0 0) == 100) = false := beq_eq_false_iff_ne.mpr c17
                                have c17b1 : ((bt a0 0) != 100) = true := bne_iff_ne.mpr c17
                                have HC18 := Aside0.mk H
                                clear H
                                go_upto_if 27 with (fail)
                                go_cut [27] (fun v27 wc => ∃ (kq : Nat) (x27_17 : Bool), v27 = .bool x27_17 ∧ Aside0 (dbus_zzType_Kind.j2 kq (bt a0 0) x27_17 = some r) ∧ Aside0 (kq ≤ kj11) ∧ Drawn0 w wc)
                                case first =>
                                  have H := HC18.out
                                  clear HC18
                                  by_cases c19 : (bt a0 0) = 115
                                  · rw [if_pos c19] at H
                                    have c19b0 : ((bt a0 0) == 115) = true := beq_iff_eq.mpr c19
                                    have c19b1 : ((bt a0 0) != 115) = false := bne_eq_false_iff_eq.mpr c19
                                    clear c19
                                    (first | rw [c19b0] | (simp only [i64_w, i32_w]; rw [c19b0]) | skip)
                                    have H' := Aside0.mk H
                                    clear H
                                    go_wp2
                                    go_meet
                                    case rel => exact ⟨_, (((bt a0 0) == 115)), (by first | rfl | (simp; done) | (simp [*]; done)), H', ⟨by have := HJ8.out; have := HJ11.out; first | omega | exact Nat.le_refl _⟩, by repeat (first | exact Drawn0.refl _ | apply Drawn0.step)⟩
                                  · rw [if_neg c19] at H
                                    have c19b0 : ((bt a0 0) == 115) = false := beq_eq_false_iff_ne.mpr c19
                                    have c19b1 : ((bt a0 0) != 115) = true := bne_iff_ne.mpr c19
                                    (first | rw [c19b0] | (simp only [i64_w, i32_w]; rw [c19b0]) | skip)
                                    have H' := Aside0.mk H
                                    clear H
                                    go_wp2
                                    go_meet
                                    case rel => exact ⟨_, (((bt a0 0) == 111)), (by first | rfl | (simp; done) | (simp [*]; done)), H', ⟨by have := HJ8.out; have := HJ11.out; first | omega | exact Nat.le_refl _⟩, by repeat (first | exact Drawn0.refl _ | apply Drawn0.step)⟩
                                case rest =>
                                  clear HC18
                                  try clear c1
                                  try clear c2
                                  try clear c2b0
                                  try clear c2b1
                                  try clear p2
                                  try clear c3
                                  try clear c3b0
                                  try clear c3b1
                                  try clear p4
                                  try clear q4
                                  try clear hx4
                                  try clear qi4
                                  try clear c5
                                  try clear c5b0
                                  try clear c5b1
                                  try clear c6
                                  try clear c6b0
                                  try clear c6b1
                                  try clear c7
                                  try clear c7b0
                                  try clear c7b1
                                  try clear c8
                                  try clear c8b0
                                  try clear c8b1
                                  try clear c10
                                  try clear c10b0
                                  try clear c10b1
                                  try clear c11
                                  try clear c13
                                  try clear c13b0
                                  try clear c13b1
                                  try clear c14
                                  try clear c15
                                  try clear c15b0
                                  try clear c15b1
                                  try clear c16
                                  try clear c16b0
                                  try clear c16b1
                                  try clear c17
                                  try clear c17b0
                                  try clear c17b1
                                  try clear c19
                                  try clear c19b0
                                  try clear c19b1
                                  try clear p2
                                  try clear p4
                                  try clear q4
                                  obtain ⟨kq, x27_17, rfl, HA, HJ17, ⟨mc17, rfl⟩⟩ := hcut
                                  cases kq with
                                  | zero => exact absurd HA.out (by simp [dbus_zzType_Kind.j2])
                                  | succ kj17 =>
                                    have H := HA.out
                                    clear HA
                                    simp only [dbus_zzType_Kind.j2] at H
                                    by_cases c20 : x27_17 = true
                                    · subst c20
                                      have H1 : (some 17) = some r := by rw [if_pos rfl] at H; exact H
                                      clear H
                                      have H := H1
                                      clear H1
                                      obtain rfl := Option.some.inj H
                                      go_wp2
                                      go_ret
                                      exact ⟨by first | rfl | (simp; done) | (simp [*]; done), by repeat (first | exact Drawn0.refl _ | apply Drawn0.step)⟩
                                    · replace c20 := Bool.eq_false_iff.mpr c20
                                      subst c20
                                      have H1 : (if (bt a0 0) = 91 then (some 16) else (if (bt a0 0) = 123 then (some 14) else (if (bt a0 0) = 42 then (some 13) else (if (bt a0 0) = 103 then (some 18) else (if (bt a0 0) = 118 then (some 18) else (if (bt a0 0) = 40 then (some 18) else (some 0))))))) = some r := by rw [if_neg (show ¬ (false = true) by decide)] at H; exact H
                                      clear H
                                      have H := H1
                                      clear H1
                                      by_cases c21 : (bt a0 0) = 91
                                      · rw [if_pos c21] at H
                                        have c21b0 : ((bt a0 0) == 91) = true := beq_iff_eq.mpr c21
                                        have c21b1 : ((bt a0 0) != 91) = false := bne_eq_false_iff_eq.mpr c21
                                        clear c21
                                        obtain rfl := Option.some.inj H
                                        go_wp2
                                        go_ret
                                        exact ⟨by first | rfl | (simp; done) | (simp [*]; done), by repeat (first | exact Drawn0.refl _ | apply Drawn0.step)⟩
                                      · rw [if_neg c21] at H
                                        have c21b0 : ((bt a0 0) == 91) = false := beq_eq_false_iff_ne.mpr c21
                                        have c21b1 : ((bt a0 0) != 91) = true := bne_iff_ne.mpr c21
                                        by_cases c22 : (bt a0 0) = 123
                                        · rw [if_pos c22] at H
                                          have c22b0 : ((bt a0 0) == 123) = true := beq_iff_eq.mpr c22
                                          have c22b1 : ((bt a0 0) != 123) = false := bne_eq_false_iff_eq.mpr c22
                                          clear c22
                                          obtain rfl := Option.some.inj H
                                          go_wp2
                                          go_ret
                                          exact ⟨by first | rfl | (simp; done) | (simp [*]; done), by repeat (first | exact Drawn0.refl _ | apply Drawn0.step)⟩
                                        · rw [if_neg c22] at H
                                          have c22b0 : ((bt a0 0) == 123) = false := beq_eq_false_iff_ne.mpr c22
                                          have c22b1 : ((bt a0 0) != 123) = true := bne_iff_ne.mpr c22
                                          by_cases c23 : (bt a0 0) = 42
                                          · rw [if_pos c23] at H
                                            have c23b0 : ((bt a0 0) == 42) = true := beq_iff_eq.mpr c23
                                            have c23b1 : ((bt a0 0) != 42) = false := bne_eq_false_iff_eq.mpr c23
                                            clear c23
                                            obtain rfl := Option.some.inj H
                                            go_wp2
                                            go_ret
                                            exact ⟨by first | rfl | (simp; done) | (simp [*]; done), by repeat (first | exact Drawn0.refl _ | apply Drawn0.step)⟩
                                          · rw [if_neg c23] at H
                                            have c23b0 : ((bt a0 0) == 42) = false := beq_eq_false_iff_ne.mpr c23
                                            have c23b1 : ((bt a0 0) != 42) = true := bne_iff_ne.mpr c23
                                            by_cases c24 : (bt a0 0) = 103
                                            · rw [if_pos c24] at H
                                              have c24b0 : ((bt a0 0) == 103) = true := beq_iff_eq.mpr c24
                                              have c24b1 : ((bt a0 0) != 103) = false := bne_eq_false_iff_eq.mpr c24
                                              clear c24
                                              obtain rfl := Option.some.inj H
                                              go_wp2
                                              go_ret
                                              exact ⟨by first | rfl | (simp; done) | (simp [*]; done), by repeat (first | exact Drawn0.refl _ | apply Drawn0.step)⟩
                                            · rw [if_neg c24] at H
                                              have c24b0 : ((bt a0 0) == 103) = false := beq_eq_false_iff_ne.mpr c24
                                              have c24b1 : ((bt a0 0) != 103) = true := bne_iff_ne.mpr c24
                                              by_cases c25 : (bt a0 0) = 118
                                              · rw [if_pos c25] at H
                                                have c25b0 : ((bt a0 0) == 118) = true := beq_iff_eq.mpr c25
                                                have c25b1 : ((bt a0 0) != 118) = false := bne_eq_false_iff_eq.mpr c25
                                                clear c25
                                                obtain rfl := Option.some.inj H
                                                go_wp2
                                                go_ret
                                                exact ⟨by first | rfl | (simp; done) | (simp [*]; done), by repeat (first | exact Drawn0.refl _ | apply Drawn0.step)⟩
                                              · rw [if_neg c25] at H
                                                have c25b0 : ((bt a0 0) == 118) = false := beq_eq_false_iff_ne.mpr c25
                                                have c25b1 : ((bt a0 0) != 118) = true := bne_iff_ne.mpr c25
                                                by_cases c26 : (bt a0 0) = 40
                                                · rw [if_pos c26] at H
                                                  have c26b0 : ((bt a0 0) == 40) = true := beq_iff_eq.mpr c26
                                                  have c26b1 : ((bt a0 0) != 40) = false := bne_eq_false_iff_eq.mpr c26
                                                  clear c26
                                                  obtain rfl := Option.some.inj H
                                                  go_wp2
                                                  go_ret
                                                  exact ⟨by first | rfl | (simp; done) | (simp [*]; done), by repeat (first | exact Drawn0.refl _ | apply Drawn0.step)⟩
                                                · rw [if_neg c26] at H
                                                  have c26b0 : ((bt a0 0) == 40) = false := beq_eq_false_iff_ne.mpr c26
                                                  have c26b1 : ((bt a0 0) != 40) = true := bne_iff_ne.mpr c26
                                                  obtain rfl := Option.some.inj H
                                                  go_wp2
                                                  go_ret
                                                  exact ⟨by first | rfl | (simp; done) | (simp [*]; done), by repeat (first | exact Drawn0.refl _ | apply Drawn0.step)⟩
    · rw [if_neg c3] at H
      exact absurd H (by simp)
def dbus_zzType_Elem.f (k : Nat) (a0 : ByteArray) : Option (ByteArray) := (dbus_zzType_Kind.f k a0).bind fun t161 => (if t161 = 14 then (if 2 ≤ (a0.size : Int) then (some (a0.extract 2 a0.size)) else (none)) else (if 1 ≤ (a0.size : Int) then (some (a0.extract 1 a0.size)) else (none)))
set_option maxHeartbeats 8000000 in
set_option maxRecDepth 100000 in
theorem dbus_zzType_Elem.calls (k : Nat) (a0 : ByteArray) (r : ByteArray) (w : World) (h : dbus_zzType_Elem.f k a0 = some r) :
    Calls Tryd.prog 36 #[.string a0] w fun e w' => e = .returned (.string r) ∧ Drawn0 w w' := by
  have H : ((dbus_zzType_Kind.f k a0).bind fun t161 => (if t161 = 14 then (if 2 ≤ (a0.size : Int) then (some (a0.extract 2 a0.size)) else (none)) else (if 1 ≤ (a0.size : Int) then (some (a0.extract 1 a0.size)) else (none)))) = some r := h
  clear h
  replace H := Option.bind_eq_some_iff.mp H
  obtain ⟨t161, A20, H⟩ := H
  replace H : (if t161 = 14 then (if 2 ≤ (a0.size : Int) then (some (a0.extract 2 a0.size)) else (none)) else (if 1 ≤ (a0.size : Int) then (some (a0.extract 1 a0.size)) else (none))) = some r := H
  have A2 := Aside0.mk A20
  clear A20
  by_cases c3 : t161 = 14
  · rw [if_pos c3] at H
    have c3b0 : (t161 == 14) = true := beq_iff_eq.mpr c3
    have c3b1 : (t161 != 14) = false := bne_eq_false_iff_eq.mpr c3
    clear c3
    by_cases c4 : 2 ≤ (a0.size : Int)
    · rw [if_pos c4] at H
      have c4b0 := eq_true c4
      have c4b1 : decide (2 ≤ (a0.size : Int)) = true := decide_eq_true c4
      clear c4
      obtain rfl := Option.some.inj H
      go_enter Tryd.func36, Tryd.ntmps36
      go_wp2_with (first | ((with_reducible refine gate_callee (f := 35) rfl ?_); refine goesL_ (some 4) rfl rfl Tryd.func35 (by kernel_rfl) rfl #[.string a0] rfl (by (try simp only [List.map_toArray, List.map_cons, List.map_nil]); first | done | rfl | (simp only [List.length_drop, List.length_take]; rfl)) ?_; (with_reducible refine (dbus_zzType_Kind.calls k a0 t161 _ A2.out).mono ?_); rintro e w' ⟨rfl, ⟨nd, rfl⟩⟩; refine ⟨_, rfl, ?_⟩))
      go_ret
      exact ⟨by first | rfl | (simp; done) | (simp [*]; done), by repeat (first | exact Drawn0.refl _ | apply Drawn0.step)⟩
    · rw [if_neg c4] at H
      exact absurd H (by simp)
  · rw [if_neg c3] at H
    have c3b0 : (t161 == 14) = false := beq_eq_false_iff_ne.mpr c3
    have c3b1 : (t161 != 14) = true := bne_iff_ne.mpr c3
    by_cases c5 : 1 ≤ (a0.size : Int)
    · rw [if_pos c5] at H
      have c5b0 := eq_true c5
      have c5b1 : decide (1 ≤ (a0.size : Int)) = true := decide_eq_true c5
      clear c5
      obtain rfl := Option.some.inj H
      go_enter Tryd.func36, Tryd.ntmps36
      go_wp2_with (first | ((with_reducible refine gate_callee (f := 35) rfl ?_); refine goesL_ (some 4) rfl rfl Tryd.func35 (by kernel_rfl) rfl #[.string a0] rfl (by (try simp only [List.map_toArray, List.map_cons, List.map_nil]); first | done | rfl | (simp only [List.length_drop, List.length_take]; rfl)) ?_; (with_reducible refine (dbus_zzType_Kind.calls k a0 t161 _ A2.out).mono ?_); rintro e w' ⟨rfl, ⟨nd, rfl⟩⟩; refine ⟨_, rfl, ?_⟩))
      go_ret
      exact ⟨by first | rfl | (simp; done) | (simp [*]; done), by repeat (first | exact Drawn0.refl _ | apply Drawn0.step)⟩
    · rw [if_neg c5] at H
      exact absurd H (by simp)
mutual
def dbus_zzEnd.l0 : Nat → ByteArray → Int → Option (Int)
  | 0, _, _ => none
  | k + 1, x0, x3 => if x3 < (x0.size : Int) then (if 0 ≤ x3 then (if (bt x0 x3) = 41 then (some (wrap64 (x3 + 1))) else (if x3 ≤ (x0.size : Int) then ((dbus_zzEnd.f k (x0.extract (x3 : Int).toNat x0.size)).bind fun t164 => (dbus_zzEnd.l0 k x0 (wrap64 (x3 + t164)))) else (none))) else (none)) else (some (wrap64 (x3 + 1)))
def dbus_zzEnd.f : Nat → ByteArray → Option (Int)
  | 0, _ => none
  | k + 1, a0 => if a0.toList = ([] : List UInt8) then (some 0) else (if 0 < (a0.size : Int) then (if (bt a0 0) = 91 then (if 1 ≤ (a0.size : Int) then ((dbus_zzEnd.f k (a0.extract 1 a0.size)).bind fun t162 => (some (wrap64 (1 + t162)))) else (none)) else (if (bt a0 0) = 123 then (if 2 ≤ (a0.size : Int) then ((dbus_zzEnd.f k (a0.extract 2 a0.size)).bind fun t163 => (some (wrap64 (2 + t163)))) else (none)) else (if (bt a0 0) = 40 then (dbus_zzEnd.l0 k a0 1) else (some 1)))) else (none))
end
set_option maxHeartbeats 8000000 in
set_option maxRecDepth 100000 in
theorem dbus_zzEnd.calls (k : Nat) : ∀ (a0 : ByteArray) (r : Int) (w : World) (h : dbus_zzEnd.f k a0 = some r),
    Calls Tryd.prog 60 #[.string a0] w fun e w' => e = .returned (.int .i64 r) ∧ Drawn0 w w' := by
  induction k using Nat.strongRecOn with
  | _ k ih =>
  intro a0 r w h
  cases k with
  | zero => exact absurd h (by simp [dbus_zzEnd.f])
  | succ k =>
  simp only [dbus_zzEnd.f] at h
  have H : (if a0.toList = ([] : List UInt8) then (some 0) else (if 0 < (a0.size : Int) then (if (bt a0 0) = 91 then (if 1 ≤ (a0.size : Int) then ((dbus_zzEnd.f k (a0.extract 1 a0.size)).bind fun t162 => (some (wrap64 (1 + t162)))) else (none)) else (if (bt a0 0) = 123 then (if 2 ≤ (a0.size : Int) then ((dbus_zzEnd.f k (a0.extract 2 a0.size)).bind fun t163 => (some (wrap64 (2 + t163)))) else (none)) else (if (bt a0 0) = 40 then (dbus_zzEnd.l0 k a0 1) else (some 1)))) else (none))) = some r := h
  clear h
  by_cases c2 : a0.toList = ([] : List UInt8)
  · rw [if_pos c2] at H
    have c2b0 : (a0.toList == ([] : List UInt8)) = true := beq_iff_eq.mpr c2
    have c2b1 : (a0.toList != ([] : List UInt8)) = false := bne_eq_false_iff_eq.mpr c2
    clear c2
    obtain rfl := Option.some.inj H
    go_enter Tryd.func60, Tryd.ntmps60
    go_wp2
    go_ret
    exact ⟨by first | rfl | (simp; done) | (simp [*]; done), by repeat (first | exact Drawn0.refl _ | apply Drawn0.step)⟩
  · rw [if_neg c2] at H
    have c2b0 : (a0.toList == ([] : List UInt8)) = false := beq_eq_false_iff_ne.mpr c2
    have c2b1 : (a0.toList != ([] : List UInt8)) = true := bne_iff_ne.mpr c2
    by_cases c3 : 0 < (a0.size : Int)
    · rw [if_pos c3] at H
      have c3b0 : decide (0 < (a0.size : Int)) = true := decide_eq_true c3
      have c3b1 : decide (0 < a0.size) = true := decide_eq_true (by omega)
      clear c3
      by_cases c5 : (bt a0 0) = 91
      · rw [if_pos c5] at H
        have c5b0 : ((bt a0 0) == 91) = true := beq_iff_eq.mpr c5
        have c5b1 : ((bt a0 0) != 91) = false := bne_eq_false_iff_eq.mpr c5
        clear c5
        by_cases c6 : 1 ≤ (a0.size : Int)
        · rw [if_pos c6] at H
          have c6b0 := eq_true c6
          have c6b1 : decide (1 ≤ (a0.size : Int)) = true := decide_eq_true c6
          clear c6
          replace H := Option.bind_eq_some_iff.mp H
          obtain ⟨t162, A70, H⟩ := H
          replace H : (some (wrap64 (1 + t162))) = some r := H
          have A7 := Aside0.mk A70
          clear A70
          obtain rfl := Option.some.inj H
          have p4 : 0 ≤ (0 : Int) := (by omega)
          have q4 : 0 < a0.size := (by have : (0 : Int) < (a0.size : Int) := of_decide_eq_true (by first | (with_reducible assumption) | assumption); omega)
          have hx4 : ∀ h : 0 < a0.size, ((a0[0]'h).toNat : Int) = bt a0 0 := bt_at a0 0
          clear p4
          have qi4 : (0 < (a0.size : Int)) = True := eq_true (of_decide_eq_true (by first | (with_reducible assumption) | assumption))
          replace q4 := eq_true q4
          go_enter Tryd.func60, Tryd.ntmps60
          go_wp2_with (first | ((with_reducible refine gate_callee (f := 60) rfl ?_); refine goesL_ (some 12) rfl rfl Tryd.func60 (by kernel_rfl) rfl #[.string (a0.extract 1 a0.size)] rfl (by (try simp only [List.map_toArray, List.map_cons, List.map_nil]); first | done | rfl | (simp only [List.length_drop, List.length_take]; rfl)) ?_; (with_reducible refine (ih k (by omega) (a0.extract 1 a0.size) t162 _ A7.out).mono ?_); rintro e w' ⟨rfl, ⟨nd, rfl⟩⟩; refine ⟨_, rfl, ?_⟩))
          go_ret
          exact ⟨by first | rfl | (simp; done) | (simp [*]; done), by repeat (first | exact Drawn0.refl _ | apply Drawn0.step)⟩
        · rw [if_neg c6] at H
          exact absurd H (by simp)
      · rw [if_neg c5] at H
        have c5b0 : ((bt a0 0) == 91) = false := beq_eq_false_iff_ne.mpr c5
        have c5b1 : ((bt a0 0) != 91) = true := bne_iff_ne.mpr c5
        by_cases c8 : (bt a0 0) = 123
        · rw [if_pos c8] at H
          have c8b0 : ((bt a0 0) == 123) = true := beq_iff_eq.mpr c8
          have c8b1 : ((bt a0 0) != 123) = false := bne_eq_false_iff_eq.mpr c8
          clear c8
          by_cases c9 : 2 ≤ (a0.size : Int)
          · rw [if_pos c9] at H
            have c9b0 := eq_true c9
            have c9b1 : decide (2 ≤ (a0.size : Int)) = true := decide_eq_true c9
            clear c9
            replace H := Option.bind_eq_some_iff.mp H
            obtain ⟨t163, A100, H⟩ := H
            replace H : (some (wrap64 (2 + t163))) = some r := H
            have A10 := Aside0.mk A100
            clear A100
            obtain rfl := Option.some.inj H
            have p4 : 0 ≤ (0 : Int) := (by omega)
            have q4 : 0 < a0.size := (by have : (0 : Int) < (a0.size : Int) := of_decide_eq_true (by first | (with_reducible assumption) | assumption); omega)
            have hx4 : ∀ h : 0 < a0.size, ((a0[0]'h).toNat : Int) = bt a0 0 := bt_at a0 0
            clear p4
            have qi4 : (0 < (a0.size : Int)) = True := eq_true (of_decide_eq_true (by first | (with_reducible assumption) | assumption))
            replace q4 := eq_true q4
            go_enter Tryd.func60, Tryd.ntmps60
            go_wp2_with (first | ((with_reducible refine gate_callee (f := 60) rfl ?_); refine goesL_ (some 18) rfl rfl Tryd.func60 (by kernel_rfl) rfl #[.string (a0.extract 2 a0.size)] rfl (by (try simp only [List.map_toArray, List.map_cons, List.map_nil]); first | done | rfl | (simp only [List.length_drop, List.length_take]; rfl)) ?_; (with_reducible refine (ih k (by omega) (a0.extract 2 a0.size) t163 _ A10.out).mono ?_); rintro e w' ⟨rfl, ⟨nd, rfl⟩⟩; refine ⟨_, rfl, ?_⟩))
            go_ret
            exact ⟨by first | rfl | (simp; done) | (simp [*]; done), by repeat (first | exact Drawn0.refl _ | apply Drawn0.step)⟩
          · rw [if_neg c9] at H
            exact absurd H (by simp)
        · rw [if_neg c8] at H
          have c8b0 : ((bt a0 0) == 123) = false := beq_eq_false_iff_ne.mpr c8
          have c8b1 : ((bt a0 0) != 123) = true := bne_iff_ne.mpr c8
          by_cases c11 : (bt a0 0) = 40
          · rw [if_pos c11] at H
            have c11b0 : ((bt a0 0) == 40) = true := beq_iff_eq.mpr c11
            have c11b1 : ((bt a0 0) != 40) = false := bne_eq_false_iff_eq.mpr c11
            clear c11
            have H' := Aside0.mk H
            clear H
            have p4 : 0 ≤ (0 : Int) := (by omega)
            have q4 : 0 < a0.size := (by have : (0 : Int) < (a0.size : Int) := of_decide_eq_true (by first | (with_reducible assumption) | assumption); omega)
            have hx4 : ∀ h : 0 < a0.size, ((a0[0]'h).toNat : Int) = bt a0 0 := bt_at a0 0
            clear p4
            have qi4 : (0 < (a0.size : Int)) = True := eq_true (of_decide_eq_true (by first | (with_reducible assumption) | assumption))
            replace q4 := eq_true q4
            go_enter Tryd.func60, Tryd.ntmps60
            go_wp2
            go_loopg [3] k (fun kq v3 w' => ∃ (x3_1 : Int), v3 = .int .i64 x3_1 ∧ Aside0 (dbus_zzEnd.l0 kq a0 x3_1 = some r) ∧ Aside0 (kq ≤ k) ∧ Drawn0 w w')
            case atStart => exact ⟨(1), (by first | rfl | (simp; done) | (simp [*]; done)), H', ⟨Nat.le_refl _⟩, by repeat (first | exact Drawn0.refl _ | apply Drawn0.step)⟩
            case round =>
              clear H'
              try clear c1
              try clear c2
              try clear c2b0
              try clear c2b1
              try clear p2
              try clear c3
              try clear c3b0
              try clear c3b1
              try clear p4
              try clear q4
              try clear hx4
              try clear qi4
              try clear c5
              try clear c5b0
              try clear c5b1
              try clear c6
              try clear c6b0
              try clear c6b1
              try clear p6
              try clear c8
              try clear c8b0
              try clear c8b1
              try clear c9
              try clear c9b0
              try clear c9b1
              try clear c11
              try clear c11b0
              try clear c11b1
              try clear p4
              try clear q4
              obtain ⟨x3_1, rfl, HA, HK1, ⟨m1, rfl⟩⟩ := hrel
              cases gk with
              | zero => exact absurd HA.out (by simp [dbus_zzEnd.l0])
              | succ k1 =>
                have H := HA.out
                clear HA
                simp only [dbus_zzEnd.l0] at H
                by_cases c12 : x3_1 < (a0.size : Int)
                · rw [if_pos c12] at H
                  have c12b0 : decide (x3_1 < (a0.size : Int)) = true := decide_eq_true c12
                  clear c12
                  by_cases c13 : 0 ≤ x3_1
                  · rw [if_pos c13] at H
                    have c13b0 : decide (0 ≤ x3_1) = true := decide_eq_true c13
                    clear c13
                    by_cases c15 : (bt a0 x3_1) = 41
                    · rw [if_pos c15] at H
                      have c15b0 : ((bt a0 x3_1) == 41) = true := beq_iff_eq.mpr c15
                      have c15b1 : ((bt a0 x3_1) != 41) = false := bne_eq_false_iff_eq.mpr c15
                      clear c15
                      obtain rfl := Option.some.inj H
                      have p14 : 0 ≤ (x3_1 : Int) := of_decide_eq_true (by first | (with_reducible assumption) | assumption)
                      have q14 : x3_1 < (a0.size : Int) := of_decide_eq_true (by first | (with_reducible assumption) | assumption)
                      have hx14 := bt_at a0 x3_1
                      replace p14 := eq_true p14
                      replace q14 := eq_true q14
                      go_wp2
                      go_ret
                      exact ⟨by first | rfl | (simp; done) | (simp [*]; done), by repeat (first | exact Drawn0.refl _ | apply Drawn0.step)⟩
                    · rw [if_neg c15] at H
                      have c15b0 : ((bt a0 x3_1) == 41) = false := beq_eq_false_iff_ne.mpr c15
                      have c15b1 : ((bt a0 x3_1) != 41) = true := bne_iff_ne.mpr c15
                      have c16b0 := eq_true (of_decide_eq_true (by first | (with_reducible assumption) | assumption) : 0 ≤ x3_1)
                      by_cases c17 : x3_1 ≤ (a0.size : Int)
                      · rw [if_pos c17] at H
                        have c17b0 := eq_true c17
                        have c17b1 : decide (x3_1 ≤ (a0.size : Int)) = true := decide_eq_true c17
                        clear c17
                        replace H := Option.bind_eq_some_iff.mp H
                        obtain ⟨t164, A180, H⟩ := H
                        replace H : (dbus_zzEnd.l0 k1 a0 (wrap64 (x3_1 + t164))) = some r := H
                        have A18 := Aside0.mk A180
                        clear A180
                        have H' := Aside0.mk H
                        clear H
                        have p14 : 0 ≤ (x3_1 : Int) := of_decide_eq_true (by first | (with_reducible assumption) | assumption)
                        have q14 : x3_1 < (a0.size : Int) := of_decide_eq_true (by first | (with_reducible assumption) | assumption)
                        have hx14 := bt_at a0 x3_1
                        replace p14 := eq_true p14
                        replace q14 := eq_true q14
                        go_wp2_with (first | ((with_reducible refine gate_callee (f := 60) rfl ?_); refine goesL_ (some 36) rfl rfl Tryd.func60 (by kernel_rfl) rfl #[.string (a0.extract (x3_1 : Int).toNat a0.size)] rfl (by (try simp only [List.map_toArray, List.map_cons, List.map_nil]); first | done | rfl | (simp only [List.length_drop, List.length_take]; rfl)) ?_; (with_reducible refine (ih k1 (by have := HK1.out; omega) (a0.extract (x3_1 : Int).toNat a0.size) t164 _ A18.out).mono ?_); rintro e w' ⟨rfl, ⟨nd, rfl⟩⟩; refine ⟨_, rfl, ?_⟩))
                        go_roundg k1
                        case measure => have := HK1.out; omega
                        case rel => exact ⟨(wrap64 (x3_1 + t164)), (by first | rfl | (simp; done) | (simp [*]; done)), H', ⟨by have := HK1.out; omega⟩, by repeat (first | exact Drawn0.refl _ | apply Drawn0.step)⟩
                      · rw [if_neg c17] at H
                        exact absurd H (by simp)
                  · rw [if_neg c13] at H
                    exact absurd H (by simp)
                · rw [if_neg c12] at H
                  have c12b0 : decide (x3_1 < (a0.size : Int)) = false := decide_eq_false c12
                  clear c12
                  obtain rfl := Option.some.inj H
                  go_wp2
                  go_ret
                  exact ⟨by first | rfl | (simp; done) | (simp [*]; done), by repeat (first | exact Drawn0.refl _ | apply Drawn0.step)⟩
          · rw [if_neg c11] at H
            have c11b0 : ((bt a0 0) == 40) = false := beq_eq_false_iff_ne.mpr c11
            have c11b1 : ((bt a0 0) != 40) = true := bne_iff_ne.mpr c11
            obtain rfl := Option.some.inj H
            have p4 : 0 ≤ (0 : Int) := (by omega)
            have q4 : 0 < a0.size := (by have : (0 : Int) < (a0.size : Int) := of_decide_eq_true (by first | (with_reducible assumption) | assumption); omega)
            have hx4 : ∀ h : 0 < a0.size, ((a0[0]'h).toNat : Int) = bt a0 0 := bt_at a0 0
            clear p4
            have qi4 : (0 < (a0.size : Int)) = True := eq_true (of_decide_eq_true (by first | (with_reducible assumption) | assumption))
            replace q4 := eq_true q4
            go_enter Tryd.func60, Tryd.ntmps60
            go_wp2
            go_ret
            exact ⟨by first | rfl | (simp; done) | (simp [*]; done), by repeat (first | exact Drawn0.refl _ | apply Drawn0.step)⟩
    · rw [if_neg c3] at H
      exact absurd H (by simp)
end Go.Proofs.YtnojjfklnihmnaaDoor.PFnSgOfParts

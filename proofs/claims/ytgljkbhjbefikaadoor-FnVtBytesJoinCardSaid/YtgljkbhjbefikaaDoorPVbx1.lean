-- Written by a program of this session (wip/tools/myprint.py) for this claim.
import Derived.Test.YtgljkbhjbefikaaDoorPVbx0
namespace Go.Proofs.YtgljkbhjbefikaaDoor.PVb
open Go.RowKit Go.Proofs.YtgljkbhjbefikaaDoorW.PrintWords Go.Proofs.YtgljkbhjbefikaaDoorW.PrintLast Go.Proofs.YtgljkbhjbefikaaDoorW.PrintMore
attribute [local go_sem] max2_int min2_int max_two min_two max_three min_three max_four min_four   -- for this text's walks alone
set_option linter.unusedVariables false
set_option linter.unusedSimpArgs false

/-! ### laws_vtInside: function 6 -/
mutual
def laws_vtInside.j0 : Nat → ByteArray → ByteArray → Option (ByteArray × Bool)
  | 0, _, _ => none
  | k + 1, x0, x6 => if x6.size + x0.size ≤ 9223372036854775807 then (if (x6 ++ x0).size + x6.size ≤ 9223372036854775807 then (laws_vtInside.l0 k x6 ((x6 ++ x0) ++ x6) 1) else (none)) else (none)
def laws_vtInside.l0 : Nat → ByteArray → ByteArray → Int → Option (ByteArray × Bool)
  | 0, _, _, _ => none
  | k + 1, x6, x7, x8 => if x8 < (x7.size : Int) then (if 0 ≤ x8 then (if (bt x7 x8) = 92 then (laws_vtInside.l0 k x6 x7 (wrap64 ((wrap64 (x8 + 1)) + 1))) else (if 0 < (x6.size : Int) then (if (bt x7 x8) = (bt x6 0) then (some (x7, (x8 == (wrap64 ((x7.size : Int) - 1))))) else (laws_vtInside.l0 k x6 x7 (wrap64 (x8 + 1)))) else (none))) else (none)) else (some (x7, false))
end
def laws_vtInside.f (k : Nat) (a0 : ByteArray) (a1 : Bool) : Option (ByteArray × Bool) := if a1 = true then (laws_vtInside.j0 k a0 (⟨#[34]⟩ : ByteArray)) else (laws_vtInside.j0 k a0 (⟨#[39]⟩ : ByteArray))
theorem laws_vtInside.mono_l : ∀ k, (∀ y0 y1, LeO (laws_vtInside.j0 k y0 y1) (laws_vtInside.j0 (k + 1) y0 y1)) ∧ (∀ y0 y1 y2, LeO (laws_vtInside.l0 k y0 y1 y2) (laws_vtInside.l0 (k + 1) y0 y1 y2))
  | 0 => ⟨fun _ _ r h => by simp [laws_vtInside.j0] at h, fun _ _ _ r h => by simp [laws_vtInside.l0] at h⟩
  | k + 1 => by
    obtain ⟨ih0, ih1⟩ := laws_vtInside.mono_l k
    refine ⟨?_, ?_⟩
    · intro y0 y1
      unfold laws_vtInside.j0
      repeat' first
      | (with_reducible exact ih0 _ _)
      | (with_reducible exact ih1 _ _ _)
      | (with_reducible exact LeO.refl _)
      | (with_reducible exact LeO.none _)
      | (with_reducible refine LeO.ite ?_ ?_)
      | (with_reducible refine LeO.bind ?_ (fun _ => ?_))
      | exact ih0 _ _
      | exact ih1 _ _ _
      | exact LeO.none _
      | refine LeO.ite ?_ ?_
      | refine LeO.bind ?_ (fun _ => ?_)
    · intro y0 y1 y2
      unfold laws_vtInside.l0
      repeat' first
      | (with_reducible exact ih0 _ _)
      | (with_reducible exact ih1 _ _ _)
      | (with_reducible exact LeO.refl _)
      | (with_reducible exact LeO.none _)
      | (with_reducible refine LeO.ite ?_ ?_)
      | (with_reducible refine LeO.bind ?_ (fun _ => ?_))
      | exact ih0 _ _
      | exact ih1 _ _ _
      | exact LeO.none _
      | refine LeO.ite ?_ ?_
      | refine LeO.bind ?_ (fun _ => ?_)
theorem laws_vtInside.mono : ∀ a0 a1 k, LeO (laws_vtInside.f k a0 a1) (laws_vtInside.f (k + 1) a0 a1) := by
  intro a0 a1 k
  obtain ⟨ih0, ih1⟩ := laws_vtInside.mono_l k
  unfold laws_vtInside.f
  repeat' first
      | (with_reducible exact ih0 _ _)
      | (with_reducible exact ih1 _ _ _)
      | (with_reducible exact LeO.refl _)
      | (with_reducible exact LeO.none _)
      | (with_reducible refine LeO.ite ?_ ?_)
      | (with_reducible refine LeO.bind ?_ (fun _ => ?_))
      | exact ih0 _ _
      | exact ih1 _ _ _
      | exact LeO.none _
      | refine LeO.ite ?_ ?_
      | refine LeO.bind ?_ (fun _ => ?_)
set_option maxHeartbeats 8000000 in
set_option maxRecDepth 100000 in
theorem laws_vtInside.calls (k : Nat) (a0 : ByteArray) (a1 : Bool) (r1 : ByteArray) (r2 : Bool) (w : World) (h : laws_vtInside.f k a0 a1 = some (r1, r2)) :
    Calls Tryd.prog 6 #[.string a0, .bool a1] w fun e w' => e = .returned (.tuple #[.string r1, .bool r2]) ∧ Drawn0 w w' := by
  have H : (if a1 = true then (laws_vtInside.j0 k a0 (⟨#[34]⟩ : ByteArray)) else (laws_vtInside.j0 k a0 (⟨#[39]⟩ : ByteArray))) = some (r1, r2) := h
  clear h
  have HC3 := Aside0.mk H
  clear H
  go_enter Tryd.func6, Tryd.ntmps6
  go_upto_if 9 with (fail)
  repeat (go_quiet (fail); go_upto_if 9 with (fail))
  go_cut [6] (fun v6 wc => ∃ (kq : Nat) (x6_2 : ByteArray), v6 = .string x6_2 ∧ Aside0 (laws_vtInside.j0 kq a0 x6_2 = some (r1, r2)) ∧ Aside0 (kq ≤ k) ∧ Drawn0 w wc)
  case first =>
    have H := HC3.out
    clear HC3
    by_cases c4 : a1 = true
    · subst c4
      have H1 : (laws_vtInside.j0 k a0 (⟨#[34]⟩ : ByteArray)) = some (r1, r2) := by rw [if_pos rfl] at H; exact H
      clear H
      have H := H1
      clear H1
      have H' := Aside0.mk H
      clear H
      go_wp2
      repeat (go_quiet (fail); try go_wp2)
      go_meet
      case rel => exact ⟨_, ((⟨#[34]⟩ : ByteArray)), (by first | rfl | (simp; done) | (simp [*]; done)), H', ⟨by first | omega | exact Nat.le_refl _⟩, by repeat (first | exact Drawn0.refl _ | apply Drawn0.step)⟩
    · replace c4 := Bool.eq_false_iff.mpr c4
      subst c4
      have H1 : (laws_vtInside.j0 k a0 (⟨#[39]⟩ : ByteArray)) = some (r1, r2) := by rw [if_neg (show ¬ (false = true) by decide)] at H; exact H
      clear H
      have H := H1
      clear H1
      have H' := Aside0.mk H
      clear H
      go_wp2
      repeat (go_quiet (fail); try go_wp2)
      go_meet
      case rel => exact ⟨_, ((⟨#[39]⟩ : ByteArray)), (by first | rfl | (simp; done) | (simp [*]; done)), H', ⟨by first | omega | exact Nat.le_refl _⟩, by repeat (first | exact Drawn0.refl _ | apply Drawn0.step)⟩
  case rest =>
    clear HC3
    try clear p2
    try clear c4
    obtain ⟨kq, x6_2, rfl, HA, HJ2, ⟨mc2, rfl⟩⟩ := hcut
    cases kq with
    | zero => exact absurd HA.out (by simp [laws_vtInside.j0])
    | succ kj2 =>
      have H := HA.out
      clear HA
      simp only [laws_vtInside.j0] at H
      by_cases c5 : x6_2.size + a0.size ≤ 9223372036854775807
      · rw [if_pos c5] at H
        have c5b0 := eq_true c5
        have c5b1 : decide (x6_2.size + a0.size ≤ 9223372036854775807) = true := decide_eq_true c5
        try have c5b2 : (9223372036854775807 < x6_2.size + a0.size) = False := eq_false (Nat.not_lt.2 c5)
        by_cases c6 : (x6_2 ++ a0).size + x6_2.size ≤ 9223372036854775807
        · rw [if_pos c6] at H
          have c6b0 := eq_true c6
          have c6b1 : decide ((x6_2 ++ a0).size + x6_2.size ≤ 9223372036854775807) = true := decide_eq_true c6
          try have c6b2 : (9223372036854775807 < (x6_2 ++ a0).size + x6_2.size) = False := eq_false (Nat.not_lt.2 c6)
          have H' := Aside0.mk H
          clear H
          go_wp2
          repeat (go_quiet (fail); try go_wp2)
          generalize (x6_2 ++ a0) ++ x6_2 = S_ at H' ⊢
          go_loopg [8] kj2 (fun kq v8 w' => ∃ (x8_2 : Int), v8 = .int .i64 x8_2 ∧ Aside0 (laws_vtInside.l0 kq x6_2 S_ x8_2 = some (r1, r2)) ∧ Aside0 (kq ≤ kj2) ∧ Drawn0 w w')
          case atStart => exact ⟨(1), (by first | rfl | (simp; done) | (simp [*]; done)), H', ⟨Nat.le_refl _⟩, by repeat (first | exact Drawn0.refl _ | apply Drawn0.step)⟩
          case round =>
            clear H'
            try clear c2
            try clear p2
            try clear c4
            try clear c5
            try clear c5b0
            try clear c5b1
            try clear c5b2
            try clear c6
            try clear c6b0
            try clear c6b1
            try clear c6b2
            try clear p2
            obtain ⟨x8_2, rfl, HA, HK2, ⟨m2, rfl⟩⟩ := hrel
            cases gk with
            | zero => exact absurd HA.out (by simp [laws_vtInside.l0])
            | succ k2 =>
              have H := HA.out
              clear HA
              simp only [laws_vtInside.l0] at H
              by_cases c7 : x8_2 < (S_.size : Int)
              · rw [if_pos c7] at H
                have c7b0 : decide (x8_2 < (S_.size : Int)) = true := decide_eq_true c7
                clear c7
                by_cases c8 : 0 ≤ x8_2
                · rw [if_pos c8] at H
                  have c8b0 : decide (0 ≤ x8_2) = true := decide_eq_true c8
                  clear c8
                  by_cases c10 : (bt S_ x8_2) = 92
                  · rw [if_pos c10] at H
                    have c10b0 : ((bt S_ x8_2) == 92) = true := beq_iff_eq.mpr c10
                    have c10b1 : ((bt S_ x8_2) != 92) = false := bne_eq_false_iff_eq.mpr c10
                    clear c10
                    have H' := Aside0.mk H
                    clear H
                    have p9 : 0 ≤ (x8_2 : Int) := of_decide_eq_true (by first | (with_reducible assumption) | assumption)
                    have q9 : x8_2 < (S_.size : Int) := of_decide_eq_true (by first | (with_reducible assumption) | assumption)
                    have hx9 := bt_at S_ x8_2
                    replace p9 := eq_true p9
                    replace q9 := eq_true q9
                    go_wp2
                    repeat (go_quiet (fail); try go_wp2)
                    go_roundg k2
                    case measure => have := HJ2.out; have := HK2.out; omega
                    case rel => exact ⟨(wrap64 ((wrap64 (x8_2 + 1)) + 1)), (by first | rfl | (simp; done) | (simp [*]; done)), H', ⟨by have := HJ2.out; have := HK2.out; omega⟩, by repeat (first | exact Drawn0.refl _ | apply Drawn0.step)⟩
                  · rw [if_neg c10] at H
                    have c10b0 : ((bt S_ x8_2) == 92) = false := beq_eq_false_iff_ne.mpr c10
                    have c10b1 : ((bt S_ x8_2) != 92) = true := bne_iff_ne.mpr c10
                    by_cases c12 : 0 < (x6_2.size : Int)
                    · rw [if_pos c12] at H
                      have c12b0 : decide (0 < (x6_2.size : Int)) = true := decide_eq_true c12
                      have c12b1 : decide (0 < x6_2.size) = true := decide_eq_true (by omega)
                      clear c12
                      by_cases c14 : (bt S_ x8_2) = (bt x6_2 0)
                      · rw [if_pos c14] at H
                        have c14b0 : ((bt S_ x8_2) == (bt x6_2 0)) = true := beq_iff_eq.mpr c14
                        have c14b1 : ((bt S_ x8_2) != (bt x6_2 0)) = false := bne_eq_false_iff_eq.mpr c14
                        clear c14
                        simp only [Option.some.injEq, Prod.mk.injEq] at H
                        obtain ⟨rfl, rfl⟩ := H
                        have p9 : 0 ≤ (x8_2 : Int) := of_decide_eq_true (by first | (with_reducible assumption) | assumption)
                        have q9 : x8_2 < (S_.size : Int) := of_decide_eq_true (by first | (with_reducible assumption) | assumption)
                        have hx9 := bt_at S_ x8_2
                        replace p9 := eq_true p9
                        replace q9 := eq_true q9
                        have p11 : 0 ≤ (x8_2 : Int) := of_decide_eq_true (by first | (with_reducible assumption) | assumption)
                        have q11 : x8_2 < (S_.size : Int) := of_decide_eq_true (by first | (with_reducible assumption) | assumption)
                        have hx11 := bt_at S_ x8_2
                        replace p11 := eq_true p11
                        replace q11 := eq_true q11
                        have p13 : 0 ≤ (0 : Int) := (by omega)
                        have q13 : 0 < x6_2.size := (by have : (0 : Int) < (x6_2.size : Int) := of_decide_eq_true (by first | (with_reducible assumption) | assumption); omega)
                        have hx13 : ∀ h : 0 < x6_2.size, ((x6_2[0]'h).toNat : Int) = bt x6_2 0 := bt_at x6_2 0
                        clear p13
                        have qi13 : (0 < (x6_2.size : Int)) = True := eq_true (of_decide_eq_true (by first | (with_reducible assumption) | assumption))
                        replace q13 := eq_true q13
                        go_wp2
                        repeat (go_quiet (fail); try go_wp2)
                        go_ret2
                        exact ⟨by first | rfl | (simp; done) | (simp [*]; done), by repeat (first | exact Drawn0.refl _ | apply Drawn0.step)⟩
                      · rw [if_neg c14] at H
                        have c14b0 : ((bt S_ x8_2) == (bt x6_2 0)) = false := beq_eq_false_iff_ne.mpr c14
                        have c14b1 : ((bt S_ x8_2) != (bt x6_2 0)) = true := bne_iff_ne.mpr c14
                        have H' := Aside0.mk H
                        clear H
                        have p9 : 0 ≤ (x8_2 : Int) := of_decide_eq_true (by first | (with_reducible assumption) | assumption)
                        have q9 : x8_2 < (S_.size : Int) := of_decide_eq_true (by first | (with_reducible assumption) | assumption)
                        have hx9 := bt_at S_ x8_2
                        replace p9 := eq_true p9
                        replace q9 := eq_true q9
                        have p11 : 0 ≤ (x8_2 : Int) := of_decide_eq_true (by first | (with_reducible assumption) | assumption)
                        have q11 : x8_2 < (S_.size : Int) := of_decide_eq_true (by first | (with_reducible assumption) | assumption)
                        have hx11 := bt_at S_ x8_2
                        replace p11 := eq_true p11
                        replace q11 := eq_true q11
                        have p13 : 0 ≤ (0 : Int) := (by omega)
                        have q13 : 0 < x6_2.size := (by have : (0 : Int) < (x6_2.size : Int) := of_decide_eq_true (by first | (with_reducible assumption) | assumption); omega)
                        have hx13 : ∀ h : 0 < x6_2.size, ((x6_2[0]'h).toNat : Int) = bt x6_2 0 := bt_at x6_2 0
                        clear p13
                        have qi13 : (0 < (x6_2.size : Int)) = True := eq_true (of_decide_eq_true (by first | (with_reducible assumption) | assumption))
                        replace q13 := eq_true q13
                        go_wp2
                        repeat (go_quiet (fail); try go_wp2)
                        go_roundg k2
                        case measure => have := HJ2.out; have := HK2.out; omega
                        case rel => exact ⟨(wrap64 (x8_2 + 1)), (by first | rfl | (simp; done) | (simp [*]; done)), H', ⟨by have := HJ2.out; have := HK2.out; omega⟩, by repeat (first | exact Drawn0.refl _ | apply Drawn0.step)⟩
                    · rw [if_neg c12] at H
                      exact absurd H (by simp)
                · rw [if_neg c8] at H
                  exact absurd H (by simp)
              · rw [if_neg c7] at H
                have c7b0 : decide (x8_2 < (S_.size : Int)) = false := decide_eq_false c7
                clear c7
                simp only [Option.some.injEq, Prod.mk.injEq] at H
                obtain ⟨rfl, rfl⟩ := H
                go_wp2
                repeat (go_quiet (fail); try go_wp2)
                go_ret2
                exact ⟨by first | rfl | (simp; done) | (simp [*]; done), by repeat (first | exact Drawn0.refl _ | apply Drawn0.step)⟩
        · rw [if_neg c6] at H
          exact absurd H (by simp)
      · rw [if_neg c5] at H
        exact absurd H (by simp)

/-! ### dbus_varParseByteString: function 25 -/
def dbus_varParseByteString.l0 : Nat → ByteArray → List Int → Option (List Int × Option Int)
  | 0, _, _ => none
  | k + 1, x0, x4 => if (x0.size : Int) = 0 then (if x4.length < 140737488355328 then (some ((x4 ++ [0]), none)) else (none)) else (if 0 < (x0.size : Int) then (if 1 ≤ (x0.size : Int) then (if (bt x0 0) = 92 then (if 0 < ((x0.extract 1 x0.size).size : Int) then (if 1 ≤ ((x0.extract 1 x0.size).size : Int) then (if (bt (x0.extract 1 x0.size) 0) = 97 then (if x4.length < 140737488355328 then (dbus_varParseByteString.l0 k ((x0.extract 1 x0.size).extract 1 (x0.extract 1 x0.size).size) (x4 ++ [7])) else (none)) else (if (bt (x0.extract 1 x0.size) 0) = 98 then (if x4.length < 140737488355328 then (dbus_varParseByteString.l0 k ((x0.extract 1 x0.size).extract 1 (x0.extract 1 x0.size).size) (x4 ++ [8])) else (none)) else (if (bt (x0.extract 1 x0.size) 0) = 102 then (if x4.length < 140737488355328 then (dbus_varParseByteString.l0 k ((x0.extract 1 x0.size).extract 1 (x0.extract 1 x0.size).size) (x4 ++ [12])) else (none)) else (if (bt (x0.extract 1 x0.size) 0) = 110 then (if x4.length < 140737488355328 then (dbus_varParseByteString.l0 k ((x0.extract 1 x0.size).extract 1 (x0.extract 1 x0.size).size) (x4 ++ [10])) else (none)) else (if (bt (x0.extract 1 x0.size) 0) = 114 then (if x4.length < 140737488355328 then (dbus_varParseByteString.l0 k ((x0.extract 1 x0.size).extract 1 (x0.extract 1 x0.size).size) (x4 ++ [13])) else (none)) else (if (bt (x0.extract 1 x0.size) 0) = 116 then (if x4.length < 140737488355328 then (dbus_varParseByteString.l0 k ((x0.extract 1 x0.size).extract 1 (x0.extract 1 x0.size).size) (x4 ++ [9])) else (none)) else (if (bt (x0.extract 1 x0.size) 0) = 120 then (if (((x0.extract 1 x0.size).extract 1 (x0.extract 1 x0.size).size).size : Int) < 2 then ((Given.errNew.f (⟨#[115, 104, 111, 114, 116, 32, 101, 115, 99, 97, 112, 101]⟩ : ByteArray)).bind fun t128 => (some (([] : List Int), t128))) else (if 0 ≤ 2 then (if 2 ≤ (((x0.extract 1 x0.size).extract 1 (x0.extract 1 x0.size).size).size : Int) then ((Given.parseUint.f (((x0.extract 1 x0.size).extract 1 (x0.extract 1 x0.size).size).extract 0 2) 16 8).bind fun bt129 => (if bt129.2.isNone = true then (if x4.length < 140737488355328 then (dbus_varParseByteString.l0 k (((x0.extract 1 x0.size).extract 1 (x0.extract 1 x0.size).size).extract 2 ((x0.extract 1 x0.size).extract 1 (x0.extract 1 x0.size).size).size) (x4 ++ [(bt129.1) % 256])) else (none)) else (some (([] : List Int), some (bt129.2.getD 0))))) else (none)) else (none))) else (if (bt (x0.extract 1 x0.size) 0) = 48 then (if (((x0.extract 1 x0.size).extract 1 (x0.extract 1 x0.size).size).size : Int) < 3 then ((Given.errNew.f (⟨#[115, 104, 111, 114, 116, 32, 101, 115, 99, 97, 112, 101]⟩ : ByteArray)).bind fun t135 => (some (([] : List Int), t135))) else (if 0 ≤ 3 then (if 3 ≤ (((x0.extract 1 x0.size).extract 1 (x0.extract 1 x0.size).size).size : Int) then ((Given.parseUint.f (((x0.extract 1 x0.size).extract 1 (x0.extract 1 x0.size).size).extract 0 3) 8 8).bind fun bt136 => (if bt136.2.isNone = true then (if x4.length < 140737488355328 then (dbus_varParseByteString.l0 k (((x0.extract 1 x0.size).extract 1 (x0.extract 1 x0.size).size).extract 3 ((x0.extract 1 x0.size).extract 1 (x0.extract 1 x0.size).size).size) (x4 ++ [(bt136.1) % 256])) else (none)) else (some (([] : List Int), some (bt136.2.getD 0))))) else (none)) else (none))) else (if x4.length < 140737488355328 then (dbus_varParseByteString.l0 k ((x0.extract 1 x0.size).extract 1 (x0.extract 1 x0.size).size) (x4 ++ [bt (x0.extract 1 x0.size) 0])) else (none)))))))))) else (none)) else (none)) else (if x4.length < 140737488355328 then (dbus_varParseByteString.l0 k (x0.extract 1 x0.size) (x4 ++ [bt x0 0])) else (none))) else (none)) else (none))
def dbus_varParseByteString.f (k : Nat) (a0 : ByteArray) : Option (List Int × Option Int) := if 0 ≤ 281474976710656 then (if 2 ≤ (wrap64 ((a0.size : Int) - 1)) then (if (wrap64 ((a0.size : Int) - 1)) ≤ (a0.size : Int) then (dbus_varParseByteString.l0 k (a0.extract 2 ((wrap64 ((a0.size : Int) - 1)) : Int).toNat) (([] : List Int))) else (none)) else (none)) else (none)
theorem dbus_varParseByteString.mono_l : ∀ k, (∀ y0 y1, LeO (dbus_varParseByteString.l0 k y0 y1) (dbus_varParseByteString.l0 (k + 1) y0 y1))
  | 0 => fun _ _ r h => by simp [dbus_varParseByteString.l0] at h
  | k + 1 => by
    have ih0 := dbus_varParseByteString.mono_l k
    · intro y0 y1
      unfold dbus_varParseByteString.l0
      repeat' first
      | (with_reducible exact ih0 _ _)
      | (with_reducible exact LeO.refl _)
      | (with_reducible exact LeO.none _)
      | (with_reducible refine LeO.ite ?_ ?_)
      | (with_reducible refine LeO.bind ?_ (fun _ => ?_))
      | exact ih0 _ _
      | exact LeO.none _
      | refine LeO.ite ?_ ?_
      | refine LeO.bind ?_ (fun _ => ?_)
theorem dbus_varParseByteString.mono : ∀ a0 k, LeO (dbus_varParseByteString.f k a0) (dbus_varParseByteString.f (k + 1) a0) := by
  intro a0 k
  have ih0 := dbus_varParseByteString.mono_l k
  unfold dbus_varParseByteString.f
  repeat' first
      | (with_reducible exact ih0 _ _)
      | (with_reducible exact LeO.refl _)
      | (with_reducible exact LeO.none _)
      | (with_reducible refine LeO.ite ?_ ?_)
      | (with_reducible refine LeO.bind ?_ (fun _ => ?_))
      | exact ih0 _ _
      | exact LeO.none _
      | refine LeO.ite ?_ ?_
      | refine LeO.bind ?_ (fun _ => ?_)
set_option maxHeartbeats 8000000 in
set_option maxRecDepth 100000 in
theorem dbus_varParseByteString.calls (k : Nat) (a0 : ByteArray) (r1 : List Int) (r2 : Option Int) (w : World) (hG : Given.Glob w) (h : dbus_varParseByteString.f k a0 = some (r1, r2)) :
    Calls Tryd.prog 25 #[.string a0] w fun e w' => ∃ v0_ ev_ : Value, e = .returned (.tuple #[v0_, ev_]) ∧ Given.IsErr ev_ r2 ∧ Kd.R (Kd.int .u8) 5 w' w.heap.size (fun _ => True) v0_ r1 ∧ Below w.heap.size w w' := by
  have HG := Aside0.mk hG
  clear hG
  have hu37 := Tryd.underlying37
  have HB := Aside0.mk (Below.refl w.heap.size w)
  have H : (if 0 ≤ 281474976710656 then (if 2 ≤ (wrap64 ((a0.size : Int) - 1)) then (if (wrap64 ((a0.size : Int) - 1)) ≤ (a0.size : Int) then (dbus_varParseByteString.l0 k (a0.extract 2 ((wrap64 ((a0.size : Int) - 1)) : Int).toNat) (([] : List Int))) else (none)) else (none)) else (none)) = some (r1, r2) := h
  clear h
  by_cases c2 : 0 ≤ 281474976710656
  · rw [if_pos c2] at H
    have c2b0 := eq_true c2
    have c2b1 : decide (0 ≤ 281474976710656) = true := decide_eq_true c2
    clear c2
    obtain ⟨y101, hy101⟩ : ∃ y_ : List Int, y_ = (([] : List Int)) := ⟨_, rfl⟩
    replace H : (if 2 ≤ (wrap64 ((a0.size : Int) - 1)) then (if (wrap64 ((a0.size : Int) - 1)) ≤ (a0.size : Int) then (dbus_varParseByteString.l0 k (a0.extract 2 ((wrap64 ((a0.size : Int) - 1)) : Int).toNat) y101) else (none)) else (none)) = some (r1, r2) := by first | (rw [hy101]; with_reducible exact H) | (have H2_ := (Option.bind_some _ _).symm.trans H; rw [hy101]; with_reducible exact H2_) | (have H2_ := (Option.bind_some _ _).symm.trans H; with_reducible exact H2_) | with_reducible exact H | (rw [hy101]; exact H) | exact H
    have Ny101 := Aside0.mk hy101
    clear hy101
    by_cases c3 : 2 ≤ (wrap64 ((a0.size : Int) - 1))
    · rw [if_pos c3] at H
      have c3b0 := eq_true c3
      have c3b1 : decide (2 ≤ (wrap64 ((a0.size : Int) - 1))) = true := decide_eq_true c3
      clear c3
      by_cases c4 : (wrap64 ((a0.size : Int) - 1)) ≤ (a0.size : Int)
      · rw [if_pos c4] at H
        have c4b0 := eq_true c4
        have c4b1 : decide ((wrap64 ((a0.size : Int) - 1)) ≤ (a0.size : Int)) = true := decide_eq_true c4
        clear c4
        have H' := Aside0.mk H
        clear H
        go_enter Tryd.func25, Tryd.ntmps25
        go_wp2_with (first | ((with_reducible refine gate_dst (N := 10) rfl ?_); refine Given.R_make0 1 (by decide) (by omega) (Kd.int .u8) w.heap.size 5 rfl (N := 10) rfl 26 _ _ rfl rfl rfl Tryd.underlying26 (.int .u8 0) info5 (ok := fun _ => True) trivial (Below.refl _ _) (Nat.le_refl _) ?_; intro v102 w5 ho6 hb hg_ hnew_; clear hg_ hnew_; (first | rw [← Ny101.out] at ho6 | (simp only [Int.reduceToNat] at ho6; rw [← Ny101.out] at ho6)); have n0_ := Aside0.mk (Kd.R_lower ho6 (below_size (by repeat (first | (with_reducible first | exact HB.out | apply below_alloc | apply pw_below_drewN | apply below_drew1) | exact HB.out)))); have n1_ := Aside0.mk (below_step (by repeat (first | (with_reducible first | exact HB.out | apply below_alloc | apply pw_below_drewN | apply below_drew1) | exact HB.out)) hb); clear HB; have HO103 := n0_; have HB := n1_; clear n0_ n1_; clear hb ho6))
        go_loopg [0, 4] k (fun kq v0 v4 w' => ∃ (x0_1 : ByteArray) (x4_1 : List Int), v0 = .string x0_1 ∧ Aside0 (dbus_varParseByteString.l0 kq x0_1 x4_1 = some (r1, r2)) ∧ Aside0 (kq ≤ k) ∧ Aside0 (Kd.R (Kd.int .u8) 5 w' w.heap.size (fun _ => True) v4 x4_1) ∧ Aside0 (Below w.heap.size w w'))
        case atStart => exact ⟨(a0.extract 2 ((wrap64 ((a0.size : Int) - 1)) : Int).toNat), (y101), (by first | rfl | (simp; done) | (simp [*]; done)), H', ⟨Nat.le_refl _⟩, ⟨by (with_reducible repeat (first | apply Kd.R_alloc | apply Kd.R_drewN | apply Kd.R_drew)); exact HO103.out⟩, ⟨by repeat (first | (with_reducible first | exact HB.out | apply below_alloc | apply pw_below_drewN | apply below_drew1) | exact HB.out)⟩⟩
        case round =>
          clear H'
          try clear c2
          try clear c2b0
          try clear c2b1
          try clear p2
          try clear c3
          try clear c3b0
          try clear c3b1
          try clear c4
          try clear c4b0
          try clear c4b1
          try clear p6
          obtain ⟨x0_1, x4_1, rfl, HA, HK1, HO_4, HB⟩ := hrel
          cases gk with
          | zero => exact absurd HA.out (by simp [dbus_varParseByteString.l0])
          | succ k1 =>
            have H := HA.out
            clear HA
            simp only [dbus_varParseByteString.l0] at H
            by_cases c7 : (x0_1.size : Int) = 0
            · rw [if_pos c7] at H
              have c7b0 : ((x0_1.size : Int) == 0) = true := beq_iff_eq.mpr c7
              have c7b1 : ((x0_1.size : Int) != 0) = false := bne_eq_false_iff_eq.mpr c7
              clear c7
              by_cases c8 : x4_1.length < 140737488355328
              · rw [if_pos c8] at H
                have LMc8 := Aside0.mk c8
                clear c8
                obtain ⟨y104, hy104⟩ : ∃ y_ : List Int, y_ = (x4_1 ++ [0]) := ⟨_, rfl⟩
                replace H : (some (y104, none)) = some (r1, r2) := by first | (rw [hy104]; with_reducible exact H) | (have H2_ := (Option.bind_some _ _).symm.trans H; rw [hy104]; with_reducible exact H2_) | (have H2_ := (Option.bind_some _ _).symm.trans H; with_reducible exact H2_) | with_reducible exact H | (rw [hy104]; exact H) | exact H
                have Ny104 := Aside0.mk hy104
                clear hy104
                simp only [Option.some.injEq, Prod.mk.injEq] at H
                obtain ⟨rfl, rfl⟩ := H
                go_wp2_with (first | ((with_reducible refine gate_builtin (b := .append) (xs := #[.tmp 112, .tmp 113]) rfl ?_); at_builtin; refine Kd.R_append (Kd.int .u8) (w0 := w) w.heap.size rfl (.tmp 112) (.tmp 113) 26 5 (.int .u8 0) 1 rfl Tryd.underlying26 info5 rfl (by decide) (by omega) u4 x4_1 0 [.int .u8 0] (fun _ => True) (fun _ => False) rfl rfl ?aP (fun _ hk => hk.elim) ?aF ?aO ?aB ?aS ?aL ?_; (case aP => exact rfl); (case aB => exact (by repeat (first | (with_reducible first | exact HB.out | apply below_alloc | apply pw_below_drewN | apply below_drew1) | exact HB.out))); (case aF => exact (fun _ _ => trivial)); (case aO => exact (by (with_reducible repeat (first | apply Kd.R_alloc | apply Kd.R_drewN | apply Kd.R_drew)); exact HO_4.out)); (case aS => exact (below_size (by repeat (first | (with_reducible first | exact HB.out | apply below_alloc | apply pw_below_drewN | apply below_drew1) | exact HB.out)))); (case aL => have := LMc8.out; omega); intro v105 w9 ho hb hg hat; rw [← Ny104.out] at ho; have n0_ := Aside0.mk (hb); have n1_ := Aside0.mk (ho); clear HB; clear HO_4; have HB := n0_; have HO106 := n1_; clear n0_ n1_; clear ho hb hg hat))
                go_ret2
                exact ⟨_, .nilIface, by first | rfl | (simp [errW_none, errW_some] <;> rfl) | (simp [*, errW_none, errW_some] <;> rfl), rfl, by (with_reducible repeat (first | apply Kd.R_alloc | apply Kd.R_drewN | apply Kd.R_drew)); exact HO106.out, by repeat (first | (with_reducible first | exact HB.out | apply below_alloc | apply pw_below_drewN | apply below_drew1) | exact HB.out)⟩
              · rw [if_neg c8] at H
                exact absurd H (by simp)
            · rw [if_neg c7] at H
              have c7b0 : ((x0_1.size : Int) == 0) = false := beq_eq_false_iff_ne.mpr c7
              have c7b1 : ((x0_1.size : Int) != 0) = true := bne_iff_ne.mpr c7
              by_cases c10 : 0 < (x0_1.size : Int)
              · rw [if_pos c10] at H
                have c10b0 : decide (0 < (x0_1.size : Int)) = true := decide_eq_true c10
                have c10b1 : decide (0 < x0_1.size) = true := decide_eq_true (by omega)
                clear c10
                by_cases c12 : 1 ≤ (x0_1.size : Int)
                · rw [if_pos c12] at H
                  have c12b0 := eq_true c12
                  have c12b1 : decide (1 ≤ (x0_1.size : Int)) = true := decide_eq_true c12
                  clear c12
                  by_cases c13 : (bt x0_1 0) = 92
                  · rw [if_pos c13] at H
                    obtain ⟨S1, hS1⟩ : ∃ s_ : ByteArray, x0_1.extract 1 x0_1.size = s_ := ⟨_, rfl⟩
                    simp only [hS1] at H
                    obtain ⟨S2, hS2⟩ : ∃ s_ : ByteArray, S1.extract 1 S1.size = s_ := ⟨_, rfl⟩
                    simp only [hS2] at H
                    have c13b0 : ((bt x0_1 0) == 92) = true := beq_iff_eq.mpr c13
                    have c13b1 : ((bt x0_1 0) != 92) = false := bne_eq_false_iff_eq.mpr c13
                    clear c13
                    by_cases c14 : 0 < (S1.size : Int)
                    · rw [if_pos c14] at H
                      have c14b0 : decide (0 < (S1.size : Int)) = true := decide_eq_true c14
                      have c14b1 : decide (0 < S1.size) = true := decide_eq_true (by omega)
                      clear c14
                      by_cases c16 : 1 ≤ (S1.size : Int)
                      · rw [if_pos c16] at H
                        have c16b0 := eq_true c16
                        have c16b1 : decide (1 ≤ (S1.size : Int)) = true := decide_eq_true c16
                        clear c16
                        by_cases c17 : (bt S1 0) = 97
                        · rw [if_pos c17] at H
                          have c17b0 : ((bt S1 0) == 97) = true := beq_iff_eq.mpr c17
                          have c17b1 : ((bt S1 0) != 97) = false := bne_eq_false_iff_eq.mpr c17
                          clear c17
                          by_cases c18 : x4_1.length < 140737488355328
                          · rw [if_pos c18] at H
                            have LMc18 := Aside0.mk c18
                            clear c18
                            obtain ⟨y110, hy110⟩ : ∃ y_ : List Int, y_ = (x4_1 ++ [7]) := ⟨_, rfl⟩
                            replace H : (dbus_varParseByteString.l0 k1 S2 y110) = some (r1, r2) := by first | (rw [hy110]; with_reducible exact H) | (have H2_ := (Option.bind_some _ _).symm.trans H; rw [hy110]; with_reducible exact H2_) | (have H2_ := (Option.bind_some _ _).symm.trans H; with_reducible exact H2_) | with_reducible exact H | (rw [hy110]; exact H) | exact H
                            have Ny110 := Aside0.mk hy110
                            clear hy110
                            have H' := Aside0.mk H
                            clear H
                            have p11 : 0 ≤ (0 : Int) := (by omega)
                            have q11 : 0 < x0_1.size := (by have : (0 : Int) < (x0_1.size : Int) := of_decide_eq_true (by first | (with_reducible assumption) | assumption); omega)
                            have hx11 : ∀ h : 0 < x0_1.size, ((x0_1[0]'h).toNat : Int) = bt x0_1 0 := bt_at x0_1 0
                            clear p11
                            have qi11 : (0 < (x0_1.size : Int)) = True := eq_true (of_decide_eq_true (by first | (with_reducible assumption) | assumption))
                            replace q11 := eq_true q11
                            have p15 : 0 ≤ (0 : Int) := (by omega)
                            have q15 : 0 < S1.size := (by have : (0 : Int) < (S1.size : Int) := of_decide_eq_true (by first | (with_reducible assumption) | assumption); omega)
                            have hx15 : ∀ h : 0 < S1.size, ((S1[0]'h).toNat : Int) = bt S1 0 := bt_at S1 0
                            clear p15
                            have qi15 : (0 < (S1.size : Int)) = True := eq_true (of_decide_eq_true (by first | (with_reducible assumption) | assumption))
                            replace q15 := eq_true q15
                            go_wp2_with (first | ((with_reducible refine gate_builtin (b := .append) (xs := #[.tmp 40, .tmp 41]) rfl ?_); at_builtin; refine Kd.R_append (Kd.int .u8) (w0 := w) w.heap.size rfl (.tmp 40) (.tmp 41) 26 5 (.int .u8 0) 1 rfl Tryd.underlying26 info5 rfl (by decide) (by omega) u4 x4_1 7 [.int .u8 7] (fun _ => True) (fun _ => False) rfl rfl ?aP (fun _ hk => hk.elim) ?aF ?aO ?aB ?aS ?aL ?_; (case aP => exact rfl); (case aB => exact (by repeat (first | (with_reducible first | exact HB.out | apply below_alloc | apply pw_below_drewN | apply below_drew1) | exact HB.out))); (case aF => exact (fun _ _ => trivial)); (case aO => exact (by (with_reducible repeat (first | apply Kd.R_alloc | apply Kd.R_drewN | apply Kd.R_drew)); exact HO_4.out)); (case aS => exact (below_size (by repeat (first | (with_reducible first | exact HB.out | apply below_alloc | apply pw_below_drewN | apply below_drew1) | exact HB.out)))); (case aL => have := LMc18.out; omega); intro v111 w19 ho hb hg hat; rw [← Ny110.out] at ho; have n0_ := Aside0.mk (hb); have n1_ := Aside0.mk (ho); clear HB; clear HO_4; have HB := n0_; have HO112 := n1_; clear n0_ n1_; clear ho hb hg hat))
                            go_roundg k1
                            case measure => have := HK1.out; omega
                            case rel => exact ⟨S2, (y110), (by first | rfl | (simp; done) | (simp [*]; done)), H', ⟨by have := HK1.out; omega⟩, ⟨by (with_reducible repeat (first | apply Kd.R_alloc | apply Kd.R_drewN | apply Kd.R_drew)); exact HO112.out⟩, ⟨by repeat (first | (with_reducible first | exact HB.out | apply below_alloc | apply pw_below_drewN | apply below_drew1) | exact HB.out)⟩⟩
                          · rw [if_neg c18] at H
                            exact absurd H (by simp)
                        · rw [if_neg c17] at H
                          have c17b0 : ((bt S1 0) == 97) = false := beq_eq_false_iff_ne.mpr c17
                          have c17b1 : ((bt S1 0) != 97) = true := bne_iff_ne.mpr c17
                          by_cases c20 : (bt S1 0) = 98
                          · rw [if_pos c20] at H
                            have c20b0 : ((bt S1 0) == 98) = true := beq_iff_eq.mpr c20
                            have c20b1 : ((bt S1 0) != 98) = false := bne_eq_false_iff_eq.mpr c20
                            clear c20
                            by_cases c21 : x4_1.length < 140737488355328
                            · rw [if_pos c21] at H
                              have LMc21 := Aside0.mk c21
                              clear c21
                              obtain ⟨y113, hy113⟩ : ∃ y_ : List Int, y_ = (x4_1 ++ [8]) := ⟨_, rfl⟩
                              replace H : (dbus_varParseByteString.l0 k1 S2 y113) = some (r1, r2) := by first | (rw [hy113]; with_reducible exact H) | (have H2_ := (Option.bind_some _ _).symm.trans H; rw [hy113]; with_reducible exact H2_) | (have H2_ := (Option.bind_some _ _).symm.trans H; with_reducible exact H2_) | with_reducible exact H | (rw [hy113]; exact H) | exact H
                              have Ny113 := Aside0.mk hy113
                              clear hy113
                              have H' := Aside0.mk H
                              clear H
                              have p11 : 0 ≤ (0 : Int) := (by omega)
                              have q11 : 0 < x0_1.size := (by have : (0 : Int) < (x0_1.size : Int) := of_decide_eq_true (by first | (with_reducible assumption) | assumption); omega)
                              have hx11 : ∀ h : 0 < x0_1.size, ((x0_1[0]'h).toNat : Int) = bt x0_1 0 := bt_at x0_1 0
                              clear p11
                              have qi11 : (0 < (x0_1.size : Int)) = True := eq_true (of_decide_eq_true (by first | (with_reducible assumption) | assumption))
                              replace q11 := eq_true q11
                              have p15 : 0 ≤ (0 : Int) := (by omega)
                              have q15 : 0 < S1.size := (by have : (0 : Int) < (S1.size : Int) := of_decide_eq_true (by first | (with_reducible assumption) | assumption); omega)
                              have hx15 : ∀ h : 0 < S1.size, ((S1[0]'h).toNat : Int) = bt S1 0 := bt_at S1 0
                              clear p15
                              have qi15 : (0 < (S1.size : Int)) = True := eq_true (of_decide_eq_true (by first | (with_reducible assumption) | assumption))
                              replace q15 := eq_true q15
                              go_wp2_with (first | ((with_reducible refine gate_builtin (b := .append) (xs := #[.tmp 45, .tmp 46]) rfl ?_); at_builtin; refine Kd.R_append (Kd.int .u8) (w0 := w) w.heap.size rfl (.tmp 45) (.tmp 46) 26 5 (.int .u8 0) 1 rfl Tryd.underlying26 info5 rfl (by decide) (by omega) u4 x4_1 8 [.int .u8 8] (fun _ => True) (fun _ => False) rfl rfl ?aP (fun _ hk => hk.elim) ?aF ?aO ?aB ?aS ?aL ?_; (case aP => exact rfl); (case aB => exact (by repeat (first | (with_reducible first | exact HB.out | apply below_alloc | apply pw_below_drewN | apply below_drew1) | exact HB.out))); (case aF => exact (fun _ _ => trivial)); (case aO => exact (by (with_reducible repeat (first | apply Kd.R_alloc | apply Kd.R_drewN | apply Kd.R_drew)); exact HO_4.out)); (case aS => exact (below_size (by repeat (first | (with_reducible first | exact HB.out | apply below_alloc | apply pw_below_drewN | apply below_drew1) | exact HB.out)))); (case aL => have := LMc21.out; omega); intro v114 w22 ho hb hg hat; rw [← Ny113.out] at ho; have n0_ := Aside0.mk (hb); have n1_ := Aside0.mk (ho); clear HB; clear HO_4; have HB := n0_; have HO115 := n1_; clear n0_ n1_; clear ho hb hg hat))
                              go_roundg k1
                              case measure => have := HK1.out; omega
                              case rel => exact ⟨S2, (y113), (by first | rfl | (simp; done) | (simp [*]; done)), H', ⟨by have := HK1.out; omega⟩, ⟨by (with_reducible repeat (first | apply Kd.R_alloc | apply Kd.R_drewN | apply Kd.R_drew)); exact HO115.out⟩, ⟨by repeat (first | (with_reducible first | exact HB.out | apply below_alloc | apply pw_below_drewN | apply below_drew1) | exact HB.out)⟩⟩
                            · rw [if_neg c21] at H
                              exact absurd H (by simp)
                          · rw [if_neg c20] at H
                            have c20b0 : ((bt S1 0) == 98) = false := beq_eq_false_iff_ne.mpr c20
                            have c20b1 : ((bt S1 0) != 98) = true := bne_iff_ne.mpr c20
                            by_cases c23 : (bt S1 0) = 102
                            · rw [if_pos c23] at H
                              have c23b0 : ((bt S1 0) == 102) = true := beq_iff_eq.mpr c23
                              have c23b1 : ((bt S1 0) != 102) = false := bne_eq_false_iff_eq.mpr c23
                              clear c23
                              by_cases c24 : x4_1.length < 140737488355328
                              · rw [if_pos c24] at H
                                have LMc24 := Aside0.mk c24
                                clear c24
                                obtain ⟨y116, hy116⟩ : ∃ y_ : List Int, y_ = (x4_1 ++ [12]) := ⟨_, rfl⟩
                                replace H : (dbus_varParseByteString.l0 k1 S2 y116) = some (r1, r2) := by first | (rw [hy116]; with_reducible exact H) | (have H2_ := (Option.bind_some _ _).symm.trans H; rw [hy116]; with_reducible exact H2_) | (have H2_ := (Option.bind_some _ _).symm.trans H; with_reducible exact H2_) | with_reducible exact H | (rw [hy116]; exact H) | exact H
                                have Ny116 := Aside0.mk hy116
                                clear hy116
                                have H' := Aside0.mk H
                                clear H
                                have p11 : 0 ≤ (0 : Int) := (by omega)
                                have q11 : 0 < x0_1.size := (by have : (0 : Int) < (x0_1.size : Int) := of_decide_eq_true (by first | (with_reducible assumption) | assumption); omega)
                                have hx11 : ∀ h : 0 < x0_1.size, ((x0_1[0]'h).toNat : Int) = bt x0_1 0 := bt_at x0_1 0
                                clear p11
                                have qi11 : (0 < (x0_1.size : Int)) = True := eq_true (of_decide_eq_true (by first | (with_reducible assumption) | assumption))
                                replace q11 := eq_true q11
                                have p15 : 0 ≤ (0 : Int) := (by omega)
                                have q15 : 0 < S1.size := (by have : (0 : Int) < (S1.size : Int) := of_decide_eq_true (by first | (with_reducible assumption) | assumption); omega)
                                have hx15 : ∀ h : 0 < S1.size, ((S1[0]'h).toNat : Int) = bt S1 0 := bt_at S1 0
                                clear p15
                                have qi15 : (0 < (S1.size : Int)) = True := eq_true (of_decide_eq_true (by first | (with_reducible assumption) | assumption))
                                replace q15 := eq_true q15
                                go_wp2_with (first | ((with_reducible refine gate_builtin (b := .append) (xs := #[.tmp 50, .tmp 51]) rfl ?_); at_builtin; refine Kd.R_append (Kd.int .u8) (w0 := w) w.heap.size rfl (.tmp 50) (.tmp 51) 26 5 (.int .u8 0) 1 rfl Tryd.underlying26 info5 rfl (by decide) (by omega) u4 x4_1 12 [.int .u8 12] (fun _ => True) (fun _ => False) rfl rfl ?aP (fun _ hk => hk.elim) ?aF ?aO ?aB ?aS ?aL ?_; (case aP => exact rfl); (case aB => exact (by repeat (first | (with_reducible first | exact HB.out | apply below_alloc | apply pw_below_drewN | apply below_drew1) | exact HB.out))); (case aF => exact (fun _ _ => trivial)); (case aO => exact (by (with_reducible repeat (first | apply Kd.R_alloc | apply Kd.R_drewN | apply Kd.R_drew)); exact HO_4.out)); (case aS => exact (below_size (by repeat (first | (with_reducible first | exact HB.out | apply below_alloc | apply pw_below_drewN | apply below_drew1) | exact HB.out)))); (case aL => have := LMc24.out; omega); intro v117 w25 ho hb hg hat; rw [← Ny116.out] at ho; have n0_ := Aside0.mk (hb); have n1_ := Aside0.mk (ho); clear HB; clear HO_4; have HB := n0_; have HO118 := n1_; clear n0_ n1_; clear ho hb hg hat))
                                go_roundg k1
                                case measure => have := HK1.out; omega
                                case rel => exact ⟨S2, (y116), (by first | rfl | (simp; done) | (simp [*]; done)), H', ⟨by have := HK1.out; omega⟩, ⟨by (with_reducible repeat (first | apply Kd.R_alloc | apply Kd.R_drewN | apply Kd.R_drew)); exact HO118.out⟩, ⟨by repeat (first | (with_reducible first | exact HB.out | apply below_alloc | apply pw_below_drewN | apply below_drew1) | exact HB.out)⟩⟩
                              · rw [if_neg c24] at H
                                exact absurd H (by simp)
                            · rw [if_neg c23] at H
                              have c23b0 : ((bt S1 0) == 102) = false := beq_eq_false_iff_ne.mpr c23
                              have c23b1 : ((bt S1 0) != 102) = true := bne_iff_ne.mpr c23
                              by_cases c26 : (bt S1 0) = 110
                              · rw [if_pos c26] at H
                                have c26b0 : ((bt S1 0) == 110) = true := beq_iff_eq.mpr c26
                                have c26b1 : ((bt S1 0) != 110) = false := bne_eq_false_iff_eq.mpr c26
                                clear c26
                                by_cases c27 : x4_1.length < 140737488355328
                                · rw [if_pos c27] at H
                                  have LMc27 := Aside0.mk c27
                                  clear c27
                                  obtain ⟨y119, hy119⟩ : ∃ y_ : List Int, y_ = (x4_1 ++ [10]) := ⟨_, rfl⟩
                                  replace H : (dbus_varParseByteString.l0 k1 S2 y119) = some (r1, r2) := by first | (rw [hy119]; with_reducible exact H) | (have H2_ := (Option.bind_some _ _).symm.trans H; rw [hy119]; with_reducible exact H2_) | (have H2_ := (Option.bind_some _ _).symm.trans H; with_reducible exact H2_) | with_reducible exact H | (rw [hy119]; exact H) | exact H
                                  have Ny119 := Aside0.mk hy119
                                  clear hy119
                                  have H' := Aside0.mk H
                                  clear H
                                  have p11 : 0 ≤ (0 : Int) := (by omega)
                                  have q11 : 0 < x0_1.size := (by have : (0 : Int) < (x0_1.size : Int) := of_decide_eq_true (by first | (with_reducible assumption) | assumption); omega)
                                  have hx11 : ∀ h : 0 < x0_1.size, ((x0_1[0]'h).toNat : Int) = bt x0_1 0 := bt_at x0_1 0
                                  clear p11
                                  have qi11 : (0 < (x0_1.size : Int)) = True := eq_true (of_decide_eq_true (by first | (with_reducible assumption) | assumption))
                                  replace q11 := eq_true q11
                                  have p15 : 0 ≤ (0 : Int) := (by omega)
                                  have q15 : 0 < S1.size := (by have : (0 : Int) < (S1.size : Int) := of_decide_eq_true (by first | (with_reducible assumption) | assumption); omega)
                                  have hx15 : ∀ h : 0 < S1.size, ((S1[0]'h).toNat : Int) = bt S1 0 := bt_at S1 0
                                  clear p15
                                  have qi15 : (0 < (S1.size : Int)) = True := eq_true (of_decide_eq_true (by first | (with_reducible assumption) | assumption))
                                  replace q15 := eq_true q15
                                  go_wp2_with (first | ((with_reducible refine gate_builtin (b := .append) (xs := #[.tmp 55, .tmp 56]) rfl ?_); at_builtin; refine Kd.R_append (Kd.int .u8) (w0 := w) w.heap.size rfl (.tmp 55) (.tmp 56) 26 5 (.int .u8 0) 1 rfl Tryd.underlying26 info5 rfl (by decide) (by omega) u4 x4_1 10 [.int .u8 10] (fun _ => True) (fun _ => False) rfl rfl ?aP (fun _ hk => hk.elim) ?aF ?aO ?aB ?aS ?aL ?_; (case aP => exact rfl); (case aB => exact (by repeat (first | (with_reducible first | exact HB.out | apply below_alloc | apply pw_below_drewN | apply below_drew1) | exact HB.out))); (case aF => exact (fun _ _ => trivial)); (case aO => exact (by (with_reducible repeat (first | apply Kd.R_alloc | apply Kd.R_drewN | apply Kd.R_drew)); exact HO_4.out)); (case aS => exact (below_size (by repeat (first | (with_reducible first | exact HB.out | apply below_alloc | apply pw_below_drewN | apply below_drew1) | exact HB.out)))); (case aL => have := LMc27.out; omega); intro v120 w28 ho hb hg hat; rw [← Ny119.out] at ho; have n0_ := Aside0.mk (hb); have n1_ := Aside0.mk (ho); clear HB; clear HO_4; have HB := n0_; have HO121 := n1_; clear n0_ n1_; clear ho hb hg hat))
                                  go_roundg k1
                                  case measure => have := HK1.out; omega
                                  case rel => exact ⟨S2, (y119), (by first | rfl | (simp; done) | (simp [*]; done)), H', ⟨by have := HK1.out; omega⟩, ⟨by (with_reducible repeat (first | apply Kd.R_alloc | apply Kd.R_drewN | apply Kd.R_drew)); exact HO121.out⟩, ⟨by repeat (first | (with_reducible first | exact HB.out | apply below_alloc | apply pw_below_drewN | apply below_drew1) | exact HB.out)⟩⟩
                                · rw [if_neg c27] at H
                                  exact absurd H (by simp)
                              · rw [if_neg c26] at H
                                have c26b0 : ((bt S1 0) == 110) = false := beq_eq_false_iff_ne.mpr c26
                                have c26b1 : ((bt S1 0) != 110) = true := bne_iff_ne.mpr c26
                                by_cases c29 : (bt S1 0) = 114
                                · rw [if_pos c29] at H
                                  have c29b0 : ((bt S1 0) == 114) = true := beq_iff_eq.mpr c29
                                  have c29b1 : ((bt S1 0) != 114) = false := bne_eq_false_iff_eq.mpr c29
                                  clear c29
                                  by_cases c30 : x4_1.length < 140737488355328
                                  · rw [if_pos c30] at H
                                    have LMc30 := Aside0.mk c30
                                    clear c30
                                    obtain ⟨y122, hy122⟩ : ∃ y_ : List Int, y_ = (x4_1 ++ [13]) := ⟨_, rfl⟩
                                    replace H : (dbus_varParseByteString.l0 k1 S2 y122) = some (r1, r2) := by first | (rw [hy122]; with_reducible exact H) | (have H2_ := (Option.bind_some _ _).symm.trans H; rw [hy122]; with_reducible exact H2_) | (have H2_ := (Option.bind_some _ _).symm.trans H; with_reducible exact H2_) | with_reducible exact H | (rw [hy122]; exact H) | exact H
                                    have Ny122 := Aside0.mk hy122
                                    clear hy122
                                    have H' := Aside0.mk H
                                    clear H
                                    have p11 : 0 ≤ (0 : Int) := (by omega)
                                    have q11 : 0 < x0_1.size := (by have : (0 : Int) < (x0_1.size : Int) := of_decide_eq_true (by first | (with_reducible assumption) | assumption); omega)
                                    have hx11 : ∀ h : 0 < x0_1.size, ((x0_1[0]'h).toNat : Int) = bt x0_1 0 := bt_at x0_1 0
                                    clear p11
                                    have qi11 : (0 < (x0_1.size : Int)) = True := eq_true (of_decide_eq_true (by first | (with_reducible assumption) | assumption))
                                    replace q11 := eq_true q11
                                    have p15 : 0 ≤ (0 : Int) := (by omega)
                                    have q15 : 0 < S1.size := (by have : (0 : Int) < (S1.size : Int) := of_decide_eq_true (by first | (with_reducible assumption) | assumption); omega)
                                    have hx15 : ∀ h : 0 < S1.size, ((S1[0]'h).toNat : Int) = bt S1 0 := bt_at S1 0
                                    clear p15
                                    have qi15 : (0 < (S1.size : Int)) = True := eq_true (of_decide_eq_true (by first | (with_reducible assumption) | assumption))
                                    replace q15 := eq_true q15
                                    go_wp2_with (first | ((with_reducible refine gate_builtin (b := .append) (xs := #[.tmp 60, .tmp 61]) rfl ?_); at_builtin; refine Kd.R_append (Kd.int .u8) (w0 := w) w.heap.size rfl (.tmp 60) (.tmp 61) 26 5 (.int .u8 0) 1 rfl Tryd.underlying26 info5 rfl (by decide) (by omega) u4 x4_1 13 [.int .u8 13] (fun _ => True) (fun _ => False) rfl rfl ?aP (fun _ hk => hk.elim) ?aF ?aO ?aB ?aS ?aL ?_; (case aP => exact rfl); (case aB => exact (by repeat (first | (with_reducible first | exact HB.out | apply below_alloc | apply pw_below_drewN | apply below_drew1) | exact HB.out))); (case aF => exact (fun _ _ => trivial)); (case aO => exact (by (with_reducible repeat (first | apply Kd.R_alloc | apply Kd.R_drewN | apply Kd.R_drew)); exact HO_4.out)); (case aS => exact (below_size (by repeat (first | (with_reducible first | exact HB.out | apply below_alloc | apply pw_below_drewN | apply below_drew1) | exact HB.out)))); (case aL => have := LMc30.out; omega); intro v123 w31 ho hb hg hat; rw [← Ny122.out] at ho; have n0_ := Aside0.mk (hb); have n1_ := Aside0.mk (ho); clear HB; clear HO_4; have HB := n0_; have HO124 := n1_; clear n0_ n1_; clear ho hb hg hat))
                                    go_roundg k1
                                    case measure => have := HK1.out; omega
                                    case rel => exact ⟨S2, (y122), (by first | rfl | (simp; done) | (simp [*]; done)), H', ⟨by have := HK1.out; omega⟩, ⟨by (with_reducible repeat (first | apply Kd.R_alloc | apply Kd.R_drewN | apply Kd.R_drew)); exact HO124.out⟩, ⟨by repeat (first | (with_reducible first | exact HB.out | apply below_alloc | apply pw_below_drewN | apply below_drew1) | exact HB.out)⟩⟩
                                  · rw [if_neg c30] at H
                                    exact absurd H (by simp)
                                · rw [if_neg c29] at H
                                  have c29b0 : ((bt S1 0) == 114) = false := beq_eq_false_iff_ne.mpr c29
                                  have c29b1 : ((bt S1 0) != 114) = true := bne_iff_ne.mpr c29
                                  by_cases c32 : (bt S1 0) = 116
                                  · rw [if_pos c32] at H
                                    have c32b0 : ((bt S1 0) == 116) = true := beq_iff_eq.mpr c32
                                    have c32b1 : ((bt S1 0) != 116) = false := bne_eq_false_iff_eq.mpr c32
                                    clear c32
                                    by_cases c33 : x4_1.length < 140737488355328
                                    · rw [if_pos c33] at H
                                      have LMc33 := Aside0.mk c33
                                      clear c33
                                      obtain ⟨y125, hy125⟩ : ∃ y_ : List Int, y_ = (x4_1 ++ [9]) := ⟨_, rfl⟩
                                      replace H : (dbus_varParseByteString.l0 k1 S2 y125) = some (r1, r2) := by first | (rw [hy125]; with_reducible exact H) | (have H2_ := (Option.bind_some _ _).symm.trans H; rw [hy125]; with_reducible exact H2_) | (have H2_ := (Option.bind_some _ _).symm.trans H; with_reducible exact H2_) | with_reducible exact H | (rw [hy125]; exact H) | exact H
                                      have Ny125 := Aside0.mk hy125
                                      clear hy125
                                      have H' := Aside0.mk H
                                      clear H
                                      have p11 : 0 ≤ (0 : Int) := (by omega)
                                      have q11 : 0 < x0_1.size := (by have : (0 : Int) < (x0_1.size : Int) := of_decide_eq_true (by first | (with_reducible assumption) | assumption); omega)
                                      have hx11 : ∀ h : 0 < x0_1.size, ((x0_1[0]'h).toNat : Int) = bt x0_1 0 := bt_at x0_1 0
                                      clear p11
                                      have qi11 : (0 < (x0_1.size : Int)) = True := eq_true (of_decide_eq_true (by first | (with_reducible assumption) | assumption))
                                      replace q11 := eq_true q11
                                      have p15 : 0 ≤ (0 : Int) := (by omega)
                                      have q15 : 0 < S1.size := (by have : (0 : Int) < (S1.size : Int) := of_decide_eq_true (by first | (with_reducible assumption) | assumption); omega)
                                      have hx15 : ∀ h : 0 < S1.size, ((S1[0]'h).toNat : Int) = bt S1 0 := bt_at S1 0
                                      clear p15
                                      have qi15 : (0 < (S1.size : Int)) = True := eq_true (of_decide_eq_true (by first | (with_reducible assumption) | assumption))
                                      replace q15 := eq_true q15
                                      go_wp2_with (first | ((with_reducible refine gate_builtin (b := .append) (xs := #[.tmp 65, .tmp 66]) rfl ?_); at_builtin; refine Kd.R_append (Kd.int .u8) (w0 := w) w.heap.size rfl (.tmp 65) (.tmp 66) 26 5 (.int .u8 0) 1 rfl Tryd.underlying26 info5 rfl (by decide) (by omega) u4 x4_1 9 [.int .u8 9] (fun _ => True) (fun _ => False) rfl rfl ?aP (fun _ hk => hk.elim) ?aF ?aO ?aB ?aS ?aL ?_; (case aP => exact rfl); (case aB => exact (by repeat (first | (with_reducible first | exact HB.out | apply below_alloc | apply pw_below_drewN | apply below_drew1) | exact HB.out))); (case aF => exact (fun _ _ => trivial)); (case aO => exact (by (with_reducible repeat (first | apply Kd.R_alloc | apply Kd.R_drewN | apply Kd.R_drew)); exact HO_4.out)); (case aS => exact (below_size (by repeat (first | (with_reducible first | exact HB.out | apply below_alloc | apply pw_below_drewN | apply below_drew1) | exact HB.out)))); (case aL => have := LMc33.out; omega); intro v126 w34 ho hb hg hat; rw [← Ny125.out] at ho; have n0_ := Aside0.mk (hb); have n1_ := Aside0.mk (ho); clear HB; clear HO_4; have HB := n0_; have HO127 := n1_; clear n0_ n1_; clear ho hb hg hat))
                                      go_roundg k1
                                      case measure => have := HK1.out; omega
                                      case rel => exact ⟨S2, (y125), (by first | rfl | (simp; done) | (simp [*]; done)), H', ⟨by have := HK1.out; omega⟩, ⟨by (with_reducible repeat (first | apply Kd.R_alloc | apply Kd.R_drewN | apply Kd.R_drew)); exact HO127.out⟩, ⟨by repeat (first | (with_reducible first | exact HB.out | apply below_alloc | apply pw_below_drewN | apply below_drew1) | exact HB.out)⟩⟩
                                    · rw [if_neg c33] at H
                                      exact absurd H (by simp)
                                  · rw [if_neg c32] at H
                                    have c32b0 : ((bt S1 0) == 116) = false := beq_eq_false_iff_ne.mpr c32
                                    have c32b1 : ((bt S1 0) != 116) = true := bne_iff_ne.mpr c32
                                    by_cases c35 : (bt S1 0) = 120
                                    · rw [if_pos c35] at H
                                      have c35b0 : ((bt S1 0) == 120) = true := beq_iff_eq.mpr c35
                                      have c35b1 : ((bt S1 0) != 120) = false := bne_eq_false_iff_eq.mpr c35
                                      clear c35
                                      by_cases c36 : (S2.size : Int) < 2
                                      · rw [if_pos c36] at H
                                        have c36b0 : decide ((S2.size : Int) < 2) = true := decide_eq_true c36
                                        have c36b1 : decide (S2.size < 2) = true := decide_eq_true (by omega)
                                        clear c36
                                        replace H := Option.bind_eq_some_iff.mp H
                                        obtain ⟨t128, A370, H⟩ := H
                                        replace H : (some (([] : List Int), t128)) = some (r1, r2) := H
                                        have A37 := Aside0.mk A370
                                        clear A370
                                        simp only [Option.some.injEq, Prod.mk.injEq] at H
                                        obtain ⟨rfl, rfl⟩ := H
                                        have p11 : 0 ≤ (0 : Int) := (by omega)
                                        have q11 : 0 < x0_1.size := (by have : (0 : Int) < (x0_1.size : Int) := of_decide_eq_true (by first | (with_reducible assumption) | assumption); omega)
                                        have hx11 : ∀ h : 0 < x0_1.size, ((x0_1[0]'h).toNat : Int) = bt x0_1 0 := bt_at x0_1 0
                                        clear p11
                                        have qi11 : (0 < (x0_1.size : Int)) = True := eq_true (of_decide_eq_true (by first | (with_reducible assumption) | assumption))
                                        replace q11 := eq_true q11
                                        have p15 : 0 ≤ (0 : Int) := (by omega)
                                        have q15 : 0 < S1.size := (by have : (0 : Int) < (S1.size : Int) := of_decide_eq_true (by first | (with_reducible assumption) | assumption); omega)
                                        have hx15 : ∀ h : 0 < S1.size, ((S1[0]'h).toNat : Int) = bt S1 0 := bt_at S1 0
                                        clear p15
                                        have qi15 : (0 < (S1.size : Int)) = True := eq_true (of_decide_eq_true (by first | (with_reducible assumption) | assumption))
                                        replace q15 := eq_true q15
                                        go_wp2_with (first | ((with_reducible refine gate_callee (f := 37) rfl ?_); refine goesL_ (some 73) rfl rfl Tryd.func37 (by kernel_rfl) rfl #[.string (⟨#[115, 104, 111, 114, 116, 32, 101, 115, 99, 97, 112, 101]⟩ : ByteArray)] rfl (by (try simp only [List.map_toArray, List.map_cons, List.map_nil]); first | done | rfl | (simp only [List.length_drop, List.length_take]; rfl)) ?_; (with_reducible refine (Given.errNew.calls (⟨#[115, 104, 111, 114, 116, 32, 101, 115, 99, 97, 112, 101]⟩ : ByteArray) t128 _ A37.out).mono ?_); rintro e w38 ⟨ev_, rfl, ie_, hb⟩; have IE_ := Aside0.mk ie_; clear ie_; refine ⟨_, rfl, ?_⟩; have n0_ := Aside0.mk (Kd.R_below (by (with_reducible repeat (first | apply Kd.R_alloc | apply Kd.R_drewN | apply Kd.R_drew)); exact HO_4.out) hb); have n1_ := Aside0.mk (below_step (by repeat (first | (with_reducible first | exact HB.out | apply below_alloc | apply pw_below_drewN | apply below_drew1) | exact HB.out)) hb); clear HO_4; clear HB; have HO_4 := n0_; have HB := n1_; clear n0_ n1_; (try clear hb); (try clear hb2); (try clear hk); (try clear hi); (try simp only [errW_none, errW_some])))
                                        go_ret2
                                        exact ⟨_, _, by first | rfl | (simp [errW_none, errW_some] <;> rfl) | (simp [*, errW_none, errW_some] <;> rfl), IE_.out, by first | exact Kd.R_nil _ _ _ _ _ | exact Kd.N_nil _ _ _ _ _ | exact Kd.V_nil _ _ _ _ _ | exact Kd.Q_nil _ _ _ _ _ | exact Kd.S_nil _ _ _ _ _, by repeat (first | (with_reducible first | exact HB.out | apply below_alloc | apply pw_below_drewN | apply below_drew1) | exact HB.out)⟩
                                      · rw [if_neg c36] at H
                                        have c36b0 : decide ((S2.size : Int) < 2) = false := decide_eq_false c36
                                        have c36b1 : decide (S2.size < 2) = false := decide_eq_false (by omega)
                                        clear c36
                                        by_cases c39 : 0 ≤ 2
                                        · rw [if_pos c39] at H
                                          have c39b0 := eq_true c39
                                          have c39b1 : decide (0 ≤ 2) = true := decide_eq_true c39
                                          clear c39
                                          by_cases c40 : 2 ≤ (S2.size : Int)
                                          · rw [if_pos c40] at H
                                            have c40b0 := eq_true c40
                                            have c40b1 : decide (2 ≤ (S2.size : Int)) = true := decide_eq_true c40
                                            clear c40
                                            replace H := Option.bind_eq_some_iff.mp H
                                            obtain ⟨⟨t129, t130⟩, A410, H⟩ := H
                                            replace H : (if t130.isNone = true then (if x4_1.length < 140737488355328 then (dbus_varParseByteString.l0 k1 (S2.extract 2 S2.size) (x4_1 ++ [(t129) % 256])) else (none)) else (some (([] : List Int), some (t130.getD 0)))) = some (r1, r2) := H
                                            have A41 := Aside0.mk A410
                                            clear A410
                                            rcases t130 with _ | q131
                                            · have H1 : (if x4_1.length < 140737488355328 then (dbus_varParseByteString.l0 k1 (S2.extract 2 S2.size) (x4_1 ++ [(t129) % 256])) else (none)) = some (r1, r2) := by rw [if_pos (show (none : Option Int).isNone = true by rfl)] at H; exact H
                                              clear H
                                              have H := H1
                                              clear H1
                                              try simp only [errW_none, errW_some]
                                              by_cases c42 : x4_1.length < 140737488355328
                                              · rw [if_pos c42] at H
                                                have LMc42 := Aside0.mk c42
                                                clear c42
                                                obtain ⟨y132, hy132⟩ : ∃ y_ : List Int, y_ = (x4_1 ++ [(t129) % 256]) := ⟨_, rfl⟩
                                                replace H : (dbus_varParseByteString.l0 k1 (S2.extract 2 S2.size) y132) = some (r1, r2) := by first | (rw [hy132]; with_reducible exact H) | (have H2_ := (Option.bind_some _ _).symm.trans H; rw [hy132]; with_reducible exact H2_) | (have H2_ := (Option.bind_some _ _).symm.trans H; with_reducible exact H2_) | with_reducible exact H | (rw [hy132]; exact H) | exact H
                                                have Ny132 := Aside0.mk hy132
                                                clear hy132
                                                have c43b0 := eq_true (of_decide_eq_true (by first | (with_reducible assumption) | assumption) : 2 ≤ (S2.size : Int))
                                                have H' := Aside0.mk H
                                                clear H
                                                have p11 : 0 ≤ (0 : Int) := (by omega)
                                                have q11 : 0 < x0_1.size := (by have : (0 : Int) < (x0_1.size : Int) := of_decide_eq_true (by first | (with_reducible assumption) | assumption); omega)
                                                have hx11 : ∀ h : 0 < x0_1.size, ((x0_1[0]'h).toNat : Int) = bt x0_1 0 := bt_at x0_1 0
                                                clear p11
                                                have qi11 : (0 < (x0_1.size : Int)) = True := eq_true (of_decide_eq_true (by first | (with_reducible assumption) | assumption))
                                                replace q11 := eq_true q11
                                                have p15 : 0 ≤ (0 : Int) := (by omega)
                                                have q15 : 0 < S1.size := (by have : (0 : Int) < (S1.size : Int) := of_decide_eq_true (by first | (with_reducible assumption) | assumption); omega)
                                                have hx15 : ∀ h : 0 < S1.size, ((S1[0]'h).toNat : Int) = bt S1 0 := bt_at S1 0
                                                clear p15
                                                have qi15 : (0 < (S1.size : Int)) = True := eq_true (of_decide_eq_true (by first | (with_reducible assumption) | assumption))
                                                replace q15 := eq_true q15
                                                go_wp2_with (first | ((with_reducible refine gate_callee (f := 38) rfl ?_); refine goesL_ (some 77) rfl rfl Tryd.func38 (by kernel_rfl) rfl #[.string (S2.extract 0 2), .int .i64 16, .int .i64 8] rfl (by (try simp only [List.map_toArray, List.map_cons, List.map_nil]); first | done | rfl | (simp only [List.length_drop, List.length_take]; rfl)) ?_; (with_reducible refine (Given.parseUint.calls (S2.extract 0 2) 16 8 t129 none _ (Given.Glob.below HG.out (by repeat (first | (with_reducible first | exact HB.out | apply below_alloc | apply pw_below_drewN | apply below_drew1) | exact HB.out)) (Nat.le_refl _)) A41.out).mono ?_); rintro e w44 ⟨ev_, rfl, ie_, hb⟩; obtain rfl : ev_ = .nilIface := ie_; refine ⟨_, rfl, ?_⟩; have n0_ := Aside0.mk (Kd.R_below (by (with_reducible repeat (first | apply Kd.R_alloc | apply Kd.R_drewN | apply Kd.R_drew)); exact HO_4.out) hb); have n1_ := Aside0.mk (below_step (by repeat (first | (with_reducible first | exact HB.out | apply below_alloc | apply pw_below_drewN | apply below_drew1) | exact HB.out)) hb); clear HO_4; clear HB; have HO_4 := n0_; have HB := n1_; clear n0_ n1_; (try clear hb); (try clear hb2); (try clear hk); (try clear hi); (try simp only [errW_none, errW_some])) | ((with_reducible refine gate_builtin (b := .append) (xs := #[.tmp 83, .tmp 86]) rfl ?_); at_builtin; refine Kd.R_append (Kd.int .u8) (w0 := w) w.heap.size rfl (.tmp 83) (.tmp 86) 26 5 (.int .u8 0) 1 rfl Tryd.underlying26 info5 rfl (by decide) (by omega) u4 x4_1 ((t129) % 256) [.int .u8 ((t129) % 256)] (fun _ => True) (fun _ => False) rfl rfl ?aP (fun _ hk => hk.elim) ?aF ?aO ?aB ?aS ?aL ?_; (case aP => exact rfl); (case aB => exact (by repeat (first | (with_reducible first | exact HB.out | apply below_alloc | apply pw_below_drewN | apply below_drew1) | exact HB.out))); (case aF => exact (fun _ _ => trivial)); (case aO => exact (by (with_reducible repeat (first | apply Kd.R_alloc | apply Kd.R_drewN | apply Kd.R_drew)); exact HO_4.out)); (case aS => exact (below_size (by repeat (first | (with_reducible first | exact HB.out | apply below_alloc | apply pw_below_drewN | apply below_drew1) | exact HB.out)))); (case aL => have := LMc42.out; omega); intro v133 w45 ho hb hg hat; rw [← Ny132.out] at ho; have n0_ := Aside0.mk (hb); have n1_ := Aside0.mk (ho); clear HB; clear HO_4; have HB := n0_; have HO134 := n1_; clear n0_ n1_; clear ho hb hg hat))
                                                go_roundg k1
                                                case measure => have := HK1.out; omega
                                                case rel => exact ⟨(S2.extract 2 S2.size), (y132), (by first | rfl | (simp; done) | (simp [*]; done)), H', ⟨by have := HK1.out; omega⟩, ⟨by (with_reducible repeat (first | apply Kd.R_alloc | apply Kd.R_drewN | apply Kd.R_drew)); exact HO134.out⟩, ⟨by repeat (first | (with_reducible first | exact HB.out | apply below_alloc | apply pw_below_drewN | apply below_drew1) | exact HB.out)⟩⟩
                                              · rw [if_neg c42] at H
                                                exact absurd H (by simp)
                                            · have H1 : (some (([] : List Int), some q131)) = some (r1, r2) := by rw [if_neg (show ¬ (some q131).isNone = true by simp)] at H; exact H
                                              clear H
                                              have H := H1
                                              clear H1
                                              try simp only [errW_none, errW_some]
                                              simp only [Option.some.injEq, Prod.mk.injEq] at H
                                              obtain ⟨rfl, rfl⟩ := H
                                              have p11 : 0 ≤ (0 : Int) := (by omega)
                                              have q11 : 0 < x0_1.size := (by have : (0 : Int) < (x0_1.size : Int) := of_decide_eq_true (by first | (with_reducible assumption) | assumption); omega)
                                              have hx11 : ∀ h : 0 < x0_1.size, ((x0_1[0]'h).toNat : Int) = bt x0_1 0 := bt_at x0_1 0
                                              clear p11
                                              have qi11 : (0 < (x0_1.size : Int)) = True := eq_true (of_decide_eq_true (by first | (with_reducible assumption) | assumption))
                                              replace q11 := eq_true q11
                                              have p15 : 0 ≤ (0 : Int) := (by omega)
                                              have q15 : 0 < S1.size := (by have : (0 : Int) < (S1.size : Int) := of_decide_eq_true (by first | (with_reducible assumption) | assumption); omega)
                                              have hx15 : ∀ h : 0 < S1.size, ((S1[0]'h).toNat : Int) = bt S1 0 := bt_at S1 0
                                              clear p15
                                              have qi15 : (0 < (S1.size : Int)) = True := eq_true (of_decide_eq_true (by first | (with_reducible assumption) | assumption))
                                              replace q15 := eq_true q15
                                              go_wp2_with (first | ((with_reducible refine gate_callee (f := 38) rfl ?_); refine goesL_ (some 77) rfl rfl Tryd.func38 (by kernel_rfl) rfl #[.string (S2.extract 0 2), .int .i64 16, .int .i64 8] rfl (by (try simp only [List.map_toArray, List.map_cons, List.map_nil]); first | done | rfl | (simp only [List.length_drop, List.length_take]; rfl)) ?_; (with_reducible refine (Given.parseUint.calls (S2.extract 0 2) 16 8 t129 (some q131) _ (Given.Glob.below HG.out (by repeat (first | (with_reducible first | exact HB.out | apply below_alloc | apply pw_below_drewN | apply below_drew1) | exact HB.out)) (Nat.le_refl _)) A41.out).mono ?_); rintro e w46 ⟨ev_, rfl, ⟨et_, eu_, rfl⟩, hb⟩; have IE_ : Aside0 (Given.IsErr (.iface et_ eu_) (some q131)) := ⟨⟨_, _, rfl⟩⟩; refine ⟨_, rfl, ?_⟩; have n0_ := Aside0.mk (Kd.R_below (by (with_reducible repeat (first | apply Kd.R_alloc | apply Kd.R_drewN | apply Kd.R_drew)); exact HO_4.out) hb); have n1_ := Aside0.mk (below_step (by repeat (first | (with_reducible first | exact HB.out | apply below_alloc | apply pw_below_drewN | apply below_drew1) | exact HB.out)) hb); clear HO_4; clear HB; have HO_4 := n0_; have HB := n1_; clear n0_ n1_; (try clear hb); (try clear hb2); (try clear hk); (try clear hi); (try simp only [errW_none, errW_some])))
                                              go_ret2
                                              exact ⟨_, _, by first | rfl | (simp [errW_none, errW_some] <;> rfl) | (simp [*, errW_none, errW_some] <;> rfl), IE_.out, by first | exact Kd.R_nil _ _ _ _ _ | exact Kd.N_nil _ _ _ _ _ | exact Kd.V_nil _ _ _ _ _ | exact Kd.Q_nil _ _ _ _ _ | exact Kd.S_nil _ _ _ _ _, by repeat (first | (with_reducible first | exact HB.out | apply below_alloc | apply pw_below_drewN | apply below_drew1) | exact HB.out)⟩
                                          · rw [if_neg c40] at H
                                            exact absurd H (by simp)
                                        · rw [if_neg c39] at H
                                          exact absurd H (by simp)
                                    · rw [if_neg c35] at H
                                      have c35b0 : ((bt S1 0) == 120) = false := beq_eq_false_iff_ne.mpr c35
                                      have c35b1 : ((bt S1 0) != 120) = true := bne_iff_ne.mpr c35
                                      by_cases c47 : (bt S1 0) = 48
                                      · rw [if_pos c47] at H
                                        have c47b0 : ((bt S1 0) == 48) = true := beq_iff_eq.mpr c47
                                        have c47b1 : ((bt S1 0) != 48) = false := bne_eq_false_iff_eq.mpr c47
                                        clear c47
                                        by_cases c48 : (S2.size : Int) < 3
                                        · rw [if_pos c48] at H
                                          have c48b0 : decide ((S2.size : Int) < 3) = true := decide_eq_true c48
                                          have c48b1 : decide (S2.size < 3) = true := decide_eq_true (by omega)
                                          clear c48
                                          replace H := Option.bind_eq_some_iff.mp H
                                          obtain ⟨t135, A490, H⟩ := H
                                          replace H : (some (([] : List Int), t135)) = some (r1, r2) := H
                                          have A49 := Aside0.mk A490
                                          clear A490
                                          simp only [Option.some.injEq, Prod.mk.injEq] at H
                                          obtain ⟨rfl, rfl⟩ := H
                                          have p11 : 0 ≤ (0 : Int) := (by omega)
                                          have q11 : 0 < x0_1.size := (by have : (0 : Int) < (x0_1.size : Int) := of_decide_eq_true (by first | (with_reducible assumption) | assumption); omega)
                                          have hx11 : ∀ h : 0 < x0_1.size, ((x0_1[0]'h).toNat : Int) = bt x0_1 0 := bt_at x0_1 0
                                          clear p11
                                          have qi11 : (0 < (x0_1.size : Int)) = True := eq_true (of_decide_eq_true (by first | (with_reducible assumption) | assumption))
                                          replace q11 := eq_true q11
                                          have p15 : 0 ≤ (0 : Int) := (by omega)
                                          have q15 : 0 < S1.size := (by have : (0 : Int) < (S1.size : Int) := of_decide_eq_true (by first | (with_reducible assumption) | assumption); omega)
                                          have hx15 : ∀ h : 0 < S1.size, ((S1[0]'h).toNat : Int) = bt S1 0 := bt_at S1 0
                                          clear p15
                                          have qi15 : (0 < (S1.size : Int)) = True := eq_true (of_decide_eq_true (by first | (with_reducible assumption) | assumption))
                                          replace q15 := eq_true q15
                                          go_wp2_with (first | ((with_reducible refine gate_callee (f := 37) rfl ?_); refine goesL_ (some 95) rfl rfl Tryd.func37 (by kernel_rfl) rfl #[.string (⟨#[115, 104, 111, 114, 116, 32, 101, 115, 99, 97, 112, 101]⟩ : ByteArray)] rfl (by (try simp only [List.map_toArray, List.map_cons, List.map_nil]); first | done | rfl | (simp only [List.length_drop, List.length_take]; rfl)) ?_; (with_reducible refine (Given.errNew.calls (⟨#[115, 104, 111, 114, 116, 32, 101, 115, 99, 97, 112, 101]⟩ : ByteArray) t135 _ A49.out).mono ?_); rintro e w50 ⟨ev_, rfl, ie_, hb⟩; have IE_ := Aside0.mk ie_; clear ie_; refine ⟨_, rfl, ?_⟩; have n0_ := Aside0.mk (Kd.R_below (by (with_reducible repeat (first | apply Kd.R_alloc | apply Kd.R_drewN | apply Kd.R_drew)); exact HO_4.out) hb); have n1_ := Aside0.mk (below_step (by repeat (first | (with_reducible first | exact HB.out | apply below_alloc | apply pw_below_drewN | apply below_drew1) | exact HB.out)) hb); clear HO_4; clear HB; have HO_4 := n0_; have HB := n1_; clear n0_ n1_; (try clear hb); (try clear hb2); (try clear hk); (try clear hi); (try simp only [errW_none, errW_some])))
                                          go_ret2
                                          exact ⟨_, _, by first | rfl | (simp [errW_none, errW_some] <;> rfl) | (simp [*, errW_none, errW_some] <;> rfl), IE_.out, by first | exact Kd.R_nil _ _ _ _ _ | exact Kd.N_nil _ _ _ _ _ | exact Kd.V_nil _ _ _ _ _ | exact Kd.Q_nil _ _ _ _ _ | exact Kd.S_nil _ _ _ _ _, by repeat (first | (with_reducible first | exact HB.out | apply below_alloc | apply pw_below_drewN | apply below_drew1) | exact HB.out)⟩
                                        · rw [if_neg c48] at H
                                          have c48b0 : decide ((S2.size : Int) < 3) = false := decide_eq_false c48
                                          have c48b1 : decide (S2.size < 3) = false := decide_eq_false (by omega)
                                          clear c48
                                          by_cases c51 : 0 ≤ 3
                                          · rw [if_pos c51] at H
                                            have c51b0 := eq_true c51
                                            have c51b1 : decide (0 ≤ 3) = true := decide_eq_true c51
                                            clear c51
                                            by_cases c52 : 3 ≤ (S2.size : Int)
                                            · rw [if_pos c52] at H
                                              have c52b0 := eq_true c52
                                              have c52b1 : decide (3 ≤ (S2.size : Int)) = true := decide_eq_true c52
                                              clear c52
                                              replace H := Option.bind_eq_some_iff.mp H
                                              obtain ⟨⟨t136, t137⟩, A530, H⟩ := H
                                              replace H : (if t137.isNone = true then (if x4_1.length < 140737488355328 then (dbus_varParseByteString.l0 k1 (S2.extract 3 S2.size) (x4_1 ++ [(t136) % 256])) else (none)) else (some (([] : List Int), some (t137.getD 0)))) = some (r1, r2) := H
                                              have A53 := Aside0.mk A530
                                              clear A530
                                              rcases t137 with _ | q138
                                              · have H1 : (if x4_1.length < 140737488355328 then (dbus_varParseByteString.l0 k1 (S2.extract 3 S2.size) (x4_1 ++ [(t136) % 256])) else (none)) = some (r1, r2) := by rw [if_pos (show (none : Option Int).isNone = true by rfl)] at H; exact H
                                                clear H
                                                have H := H1
                                                clear H1
                                                try simp only [errW_none, errW_some]
                                                by_cases c54 : x4_1.length < 140737488355328
                                                · rw [if_pos c54] at H
                                                  have LMc54 := Aside0.mk c54
                                                  clear c54
                                                  obtain ⟨y139, hy139⟩ : ∃ y_ : List Int, y_ = (x4_1 ++ [(t136) % 256]) := ⟨_, rfl⟩
                                                  replace H : (dbus_varParseByteString.l0 k1 (S2.extract 3 S2.size) y139) = some (r1, r2) := by first | (rw [hy139]; with_reducible exact H) | (have H2_ := (Option.bind_some _ _).symm.trans H; rw [hy139]; with_reducible exact H2_) | (have H2_ := (Option.bind_some _ _).symm.trans H; with_reducible exact H2_) | with_reducible exact H | (rw [hy139]; exact H) | exact H
                                                  have Ny139 := Aside0.mk hy139
                                                  clear hy139
                                                  have c55b0 := eq_true (of_decide_eq_true (by first | (with_reducible assumption) | assumption) : 3 ≤ (S2.size : Int))
                                                  have H' := Aside0.mk H
                                                  clear H
                                                  have p11 : 0 ≤ (0 : Int) := (by omega)
                                                  have q11 : 0 < x0_1.size := (by have : (0 : Int) < (x0_1.size : Int) := of_decide_eq_true (by first | (with_reducible assumption) | assumption); omega)
                                                  have hx11 : ∀ h : 0 < x0_1.size, ((x0_1[0]'h).toNat : Int) = bt x0_1 0 := bt_at x0_1 0
                                                  clear p11
                                                  have qi11 : (0 < (x0_1.size : Int)) = True := eq_true (of_decide_eq_true (by first | (with_reducible assumption) | assumption))
                                                  replace q11 := eq_true q11
                                                  have p15 : 0 ≤ (0 : Int) := (by omega)
                                                  have q15 : 0 < S1.size := (by have : (0 : Int) < (S1.size : Int) := of_decide_eq_true (by first | (with_reducible assumption) | assumption); omega)
                                                  have hx15 : ∀ h : 0 < S1.size, ((S1[0]'h).toNat : Int) = bt S1 0 := bt_at S1 0
                                                  clear p15
                                                  have qi15 : (0 < (S1.size : Int)) = True := eq_true (of_decide_eq_true (by first | (with_reducible assumption) | assumption))
                                                  replace q15 := eq_true q15
                                                  go_wp2_with (first | ((with_reducible refine gate_callee (f := 38) rfl ?_); refine goesL_ (some 99) rfl rfl Tryd.func38 (by kernel_rfl) rfl #[.string (S2.extract 0 3), .int .i64 8, .int .i64 8] rfl (by (try simp only [List.map_toArray, List.map_cons, List.map_nil]); first | done | rfl | (simp only [List.length_drop, List.length_take]; rfl)) ?_; (with_reducible refine (Given.parseUint.calls (S2.extract 0 3) 8 8 t136 none _ (Given.Glob.below HG.out (by repeat (first | (with_reducible first | exact HB.out | apply below_alloc | apply pw_below_drewN | apply below_drew1) | exact HB.out)) (Nat.le_refl _)) A53.out).mono ?_); rintro e w56 ⟨ev_, rfl, ie_, hb⟩; obtain rfl : ev_ = .nilIface := ie_; refine ⟨_, rfl, ?_⟩; have n0_ := Aside0.mk (Kd.R_below (by (with_reducible repeat (first | apply Kd.R_alloc | apply Kd.R_drewN | apply Kd.R_drew)); exact HO_4.out) hb); have n1_ := Aside0.mk (below_step (by repeat (first | (with_reducible first | exact HB.out | apply below_alloc | apply pw_below_drewN | apply below_drew1) | exact HB.out)) hb); clear HO_4; clear HB; have HO_4 := n0_; have HB := n1_; clear n0_ n1_; (try clear hb); (try clear hb2); (try clear hk); (try clear hi); (try simp only [errW_none, errW_some])) | ((with_reducible refine gate_builtin (b := .append) (xs := #[.tmp 105, .tmp 108]) rfl ?_); at_builtin; refine Kd.R_append (Kd.int .u8) (w0 := w) w.heap.size rfl (.tmp 105) (.tmp 108) 26 5 (.int .u8 0) 1 rfl Tryd.underlying26 info5 rfl (by decide) (by omega) u4 x4_1 ((t136) % 256) [.int .u8 ((t136) % 256)] (fun _ => True) (fun _ => False) rfl rfl ?aP (fun _ hk => hk.elim) ?aF ?aO ?aB ?aS ?aL ?_; (case aP => exact rfl); (case aB => exact (by repeat (first | (with_reducible first | exact HB.out | apply below_alloc | apply pw_below_drewN | apply below_drew1) | exact HB.out))); (case aF => exact (fun _ _ => trivial)); (case aO => exact (by (with_reducible repeat (first | apply Kd.R_alloc | apply Kd.R_drewN | apply Kd.R_drew)); exact HO_4.out)); (case aS => exact (below_size (by repeat (first | (with_reducible first | exact HB.out | apply below_alloc | apply pw_below_drewN | apply below_drew1) | exact HB.out)))); (case aL => have := LMc54.out; omega); intro v140 w57 ho hb hg hat; rw [← Ny139.out] at ho; have n0_ := Aside0.mk (hb); have n1_ := Aside0.mk (ho); clear HB; clear HO_4; have HB := n0_; have HO141 := n1_; clear n0_ n1_; clear ho hb hg hat))
                                                  go_roundg k1
                                                  case measure => have := HK1.out; omega
                                                  case rel => exact ⟨(S2.extract 3 S2.size), (y139), (by first | rfl | (simp; done) | (simp [*]; done)), H', ⟨by have := HK1.out; omega⟩, ⟨by (with_reducible repeat (first | apply Kd.R_alloc | apply Kd.R_drewN | apply Kd.R_drew)); exact HO141.out⟩, ⟨by repeat (first | (with_reducible first | exact HB.out | apply below_alloc | apply pw_below_drewN | apply below_drew1) | exact HB.out)⟩⟩
                                                · rw [if_neg c54] at H
                                                  exact absurd H (by simp)
                                              · have H1 : (some (([] : List Int), some q138)) = some (r1, r2) := by rw [if_neg (show ¬ (some q138).isNone = true by simp)] at H; exact H
                                                clear H
                                                have H := H1
                                                clear H1
                                                try simp only [errW_none, errW_some]
                                                simp only [Option.some.injEq, Prod.mk.injEq] at H
                                                obtain ⟨rfl, rfl⟩ := H
                                                have p11 : 0 ≤ (0 : Int) := (by omega)
                                                have q11 : 0 < x0_1.size := (by have : (0 : Int) < (x0_1.size : Int) := of_decide_eq_true (by first | (with_reducible assumption) | assumption); omega)
                                                have hx11 : ∀ h : 0 < x0_1.size, ((x0_1[0]'h).toNat : Int) = bt x0_1 0 := bt_at x0_1 0
                                                clear p11
                                                have qi11 : (0 < (x0_1.size : Int)) = True := eq_true (of_decide_eq_true (by first | (with_reducible assumption) | assumption))
                                                replace q11 := eq_true q11
                                                have p15 : 0 ≤ (0 : Int) := (by omega)
                                                have q15 : 0 < S1.size := (by have : (0 : Int) < (S1.size : Int) := of_decide_eq_true (by first | (with_reducible assumption) | assumption); omega)
                                                have hx15 : ∀ h : 0 < S1.size, ((S1[0]'h).toNat : Int) = bt S1 0 := bt_at S1 0
                                                clear p15
                                                have qi15 : (0 < (S1.size : Int)) = True := eq_true (of_decide_eq_true (by first | (with_reducible assumption) | assumption))
                                                replace q15 := eq_true q15
                                                go_wp2_with (first | ((with_reducible refine gate_callee (f := 38) rfl ?_); refine goesL_ (some 99) rfl rfl Tryd.func38 (by kernel_rfl) rfl #[.string (S2.extract 0 3), .int .i64 8, .int .i64 8] rfl (by (try simp only [List.map_toArray, List.map_cons, List.map_nil]); first | done | rfl | (simp only [List.length_drop, List.length_take]; rfl)) ?_; (with_reducible refine (Given.parseUint.calls (S2.extract 0 3) 8 8 t136 (some q138) _ (Given.Glob.below HG.out (by repeat (first | (with_reducible first | exact HB.out | apply below_alloc | apply pw_below_drewN | apply below_drew1) | exact HB.out)) (Nat.le_refl _)) A53.out).mono ?_); rintro e w58 ⟨ev_, rfl, ⟨et_, eu_, rfl⟩, hb⟩; have IE_ : Aside0 (Given.IsErr (.iface et_ eu_) (some q138)) := ⟨⟨_, _, rfl⟩⟩; refine ⟨_, rfl, ?_⟩; have n0_ := Aside0.mk (Kd.R_below (by (with_reducible repeat (first | apply Kd.R_alloc | apply Kd.R_drewN | apply Kd.R_drew)); exact HO_4.out) hb); have n1_ := Aside0.mk (below_step (by repeat (first | (with_reducible first | exact HB.out | apply below_alloc | apply pw_below_drewN | apply below_drew1) | exact HB.out)) hb); clear HO_4; clear HB; have HO_4 := n0_; have HB := n1_; clear n0_ n1_; (try clear hb); (try clear hb2); (try clear hk); (try clear hi); (try simp only [errW_none, errW_some])))
                                                go_ret2
                                                exact ⟨_, _, by first | rfl | (simp [errW_none, errW_some] <;> rfl) | (simp [*, errW_none, errW_some] <;> rfl), IE_.out, by first | exact Kd.R_nil _ _ _ _ _ | exact Kd.N_nil _ _ _ _ _ | exact Kd.V_nil _ _ _ _ _ | exact Kd.Q_nil _ _ _ _ _ | exact Kd.S_nil _ _ _ _ _, by repeat (first | (with_reducible first | exact HB.out | apply below_alloc | apply pw_below_drewN | apply below_drew1) | exact HB.out)⟩
                                            · rw [if_neg c52] at H
                                              exact absurd H (by simp)
                                          · rw [if_neg c51] at H
                                            exact absurd H (by simp)
                                      · rw [if_neg c47] at H
                                        have c47b0 : ((bt S1 0) == 48) = false := beq_eq_false_iff_ne.mpr c47
                                        have c47b1 : ((bt S1 0) != 48) = true := bne_iff_ne.mpr c47
                                        by_cases c59 : x4_1.length < 140737488355328
                                        · rw [if_pos c59] at H
                                          have LMc59 := Aside0.mk c59
                                          clear c59
                                          obtain ⟨y142, hy142⟩ : ∃ y_ : List Int, y_ = (x4_1 ++ [bt S1 0]) := ⟨_, rfl⟩
                                          replace H : (dbus_varParseByteString.l0 k1 S2 y142) = some (r1, r2) := by first | (rw [hy142]; with_reducible exact H) | (have H2_ := (Option.bind_some _ _).symm.trans H; rw [hy142]; with_reducible exact H2_) | (have H2_ := (Option.bind_some _ _).symm.trans H; with_reducible exact H2_) | with_reducible exact H | (rw [hy142]; exact H) | exact H
                                          have Ny142 := Aside0.mk hy142
                                          clear hy142
                                          have H' := Aside0.mk H
                                          clear H
                                          have p11 : 0 ≤ (0 : Int) := (by omega)
                                          have q11 : 0 < x0_1.size := (by have : (0 : Int) < (x0_1.size : Int) := of_decide_eq_true (by first | (with_reducible assumption) | assumption); omega)
                                          have hx11 : ∀ h : 0 < x0_1.size, ((x0_1[0]'h).toNat : Int) = bt x0_1 0 := bt_at x0_1 0
                                          clear p11
                                          have qi11 : (0 < (x0_1.size : Int)) = True := eq_true (of_decide_eq_true (by first | (with_reducible assumption) | assumption))
                                          replace q11 := eq_true q11
                                          have p15 : 0 ≤ (0 : Int) := (by omega)
                                          have q15 : 0 < S1.size := (by have : (0 : Int) < (S1.size : Int) := of_decide_eq_true (by first | (with_reducible assumption) | assumption); omega)
                                          have hx15 : ∀ h : 0 < S1.size, ((S1[0]'h).toNat : Int) = bt S1 0 := bt_at S1 0
                                          clear p15
                                          have qi15 : (0 < (S1.size : Int)) = True := eq_true (of_decide_eq_true (by first | (with_reducible assumption) | assumption))
                                          replace q15 := eq_true q15
                                          go_wp2_with (first | ((with_reducible refine gate_builtin (b := .append) (xs := #[.tmp 34, .tmp 36]) rfl ?_); at_builtin; refine Kd.R_append (Kd.int .u8) (w0 := w) w.heap.size rfl (.tmp 34) (.tmp 36) 26 5 (.int .u8 0) 1 rfl Tryd.underlying26 info5 rfl (by decide) (by omega) u4 x4_1 (bt S1 0) [.int .u8 (bt S1 0)] (fun _ => True) (fun _ => False) rfl rfl ?aP (fun _ hk => hk.elim) ?aF ?aO ?aB ?aS ?aL ?_; (case aP => exact rfl); (case aB => exact (by repeat (first | (with_reducible first | exact HB.out | apply below_alloc | apply pw_below_drewN | apply below_drew1) | exact HB.out))); (case aF => exact (fun _ _ => trivial)); (case aO => exact (by (with_reducible repeat (first | apply Kd.R_alloc | apply Kd.R_drewN | apply Kd.R_drew)); exact HO_4.out)); (case aS => exact (below_size (by repeat (first | (with_reducible first | exact HB.out | apply below_alloc | apply pw_below_drewN | apply below_drew1) | exact HB.out)))); (case aL => have := LMc59.out; omega); intro v143 w60 ho hb hg hat; rw [← Ny142.out] at ho; have n0_ := Aside0.mk (hb); have n1_ := Aside0.mk (ho); clear HB; clear HO_4; have HB := n0_; have HO144 := n1_; clear n0_ n1_; clear ho hb hg hat))
                                          go_roundg k1
                                          case measure => have := HK1.out; omega
                                          case rel => exact ⟨S2, (y142), (by first | rfl | (simp; done) | (simp [*]; done)), H', ⟨by have := HK1.out; omega⟩, ⟨by (with_reducible repeat (first | apply Kd.R_alloc | apply Kd.R_drewN | apply Kd.R_drew)); exact HO144.out⟩, ⟨by repeat (first | (with_reducible first | exact HB.out | apply below_alloc | apply pw_below_drewN | apply below_drew1) | exact HB.out)⟩⟩
                                        · rw [if_neg c59] at H
                                          exact absurd H (by simp)
                      · rw [if_neg c16] at H
                        exact absurd H (by simp)
                    · rw [if_neg c14] at H
                      exact absurd H (by simp)
                  · rw [if_neg c13] at H
                    have c13b0 : ((bt x0_1 0) == 92) = false := beq_eq_false_iff_ne.mpr c13
                    have c13b1 : ((bt x0_1 0) != 92) = true := bne_iff_ne.mpr c13
                    by_cases c61 : x4_1.length < 140737488355328
                    · rw [if_pos c61] at H
                      have LMc61 := Aside0.mk c61
                      clear c61
                      obtain ⟨y107, hy107⟩ : ∃ y_ : List Int, y_ = (x4_1 ++ [bt x0_1 0]) := ⟨_, rfl⟩
                      replace H : (dbus_varParseByteString.l0 k1 (x0_1.extract 1 x0_1.size) y107) = some (r1, r2) := by first | (rw [hy107]; with_reducible exact H) | (have H2_ := (Option.bind_some _ _).symm.trans H; rw [hy107]; with_reducible exact H2_) | (have H2_ := (Option.bind_some _ _).symm.trans H; with_reducible exact H2_) | with_reducible exact H | (rw [hy107]; exact H) | exact H
                      have Ny107 := Aside0.mk hy107
                      clear hy107
                      have H' := Aside0.mk H
                      clear H
                      have p11 : 0 ≤ (0 : Int) := (by omega)
                      have q11 : 0 < x0_1.size := (by have : (0 : Int) < (x0_1.size : Int) := of_decide_eq_true (by first | (with_reducible assumption) | assumption); omega)
                      have hx11 : ∀ h : 0 < x0_1.size, ((x0_1[0]'h).toNat : Int) = bt x0_1 0 := bt_at x0_1 0
                      clear p11
                      have qi11 : (0 < (x0_1.size : Int)) = True := eq_true (of_decide_eq_true (by first | (with_reducible assumption) | assumption))
                      replace q11 := eq_true q11
                      go_wp2_with (first | ((with_reducible refine gate_builtin (b := .append) (xs := #[.tmp 25, .tmp 27]) rfl ?_); at_builtin; refine Kd.R_append (Kd.int .u8) (w0 := w) w.heap.size rfl (.tmp 25) (.tmp 27) 26 5 (.int .u8 0) 1 rfl Tryd.underlying26 info5 rfl (by decide) (by omega) u4 x4_1 (bt x0_1 0) [.int .u8 (bt x0_1 0)] (fun _ => True) (fun _ => False) rfl rfl ?aP (fun _ hk => hk.elim) ?aF ?aO ?aB ?aS ?aL ?_; (case aP => exact rfl); (case aB => exact (by repeat (first | (with_reducible first | exact HB.out | apply below_alloc | apply pw_below_drewN | apply below_drew1) | exact HB.out))); (case aF => exact (fun _ _ => trivial)); (case aO => exact (by (with_reducible repeat (first | apply Kd.R_alloc | apply Kd.R_drewN | apply Kd.R_drew)); exact HO_4.out)); (case aS => exact (below_size (by repeat (first | (with_reducible first | exact HB.out | apply below_alloc | apply pw_below_drewN | apply below_drew1) | exact HB.out)))); (case aL => have := LMc61.out; omega); intro v108 w62 ho hb hg hat; rw [← Ny107.out] at ho; have n0_ := Aside0.mk (hb); have n1_ := Aside0.mk (ho); clear HB; clear HO_4; have HB := n0_; have HO109 := n1_; clear n0_ n1_; clear ho hb hg hat))
                      go_roundg k1
                      case measure => have := HK1.out; omega
                      case rel => exact ⟨(x0_1.extract 1 x0_1.size), (y107), (by first | rfl | (simp; done) | (simp [*]; done)), H', ⟨by have := HK1.out; omega⟩, ⟨by (with_reducible repeat (first | apply Kd.R_alloc | apply Kd.R_drewN | apply Kd.R_drew)); exact HO109.out⟩, ⟨by repeat (first | (with_reducible first | exact HB.out | apply below_alloc | apply pw_below_drewN | apply below_drew1) | exact HB.out)⟩⟩
                    · rw [if_neg c61] at H
                      exact absurd H (by simp)
                · rw [if_neg c12] at H
                  exact absurd H (by simp)
              · rw [if_neg c10] at H
                exact absurd H (by simp)
      · rw [if_neg c4] at H
        exact absurd H (by simp)
    · rw [if_neg c3] at H
      exact absurd H (by simp)
  · rw [if_neg c2] at H
    exact absurd H (by simp)

end Go.Proofs.YtgljkbhjbefikaaDoor.PVb

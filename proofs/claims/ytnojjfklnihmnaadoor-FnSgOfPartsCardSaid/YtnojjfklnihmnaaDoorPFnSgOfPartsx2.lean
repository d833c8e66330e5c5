/- Part of the proof of LawFnSgOfParts. -/
import Derived.Test.YtnojjfklnihmnaaDoorGvBd
import Derived.Test.YtnojjfklnihmnaaDoorPFnSgOfPartsx1
set_option linter.unusedVariables false
set_option linter.unusedSimpArgs false
namespace Go.Proofs.YtnojjfklnihmnaaDoor.PFnSgOfParts
open Go.RowKit Go.Proofs.YtnojjfklnihmnaaDoorW.PrintWords Go.Proofs.YtnojjfklnihmnaaDoorW.PrintLast Go.Proofs.YtnojjfklnihmnaaDoorW.PrintMore
attribute [local go_sem] max2_int min2_int max_two min_two max_three min_three max_four min_four   -- for this text's walks alone
set_option linter.unusedVariables false
set_option linter.unusedSimpArgs false
mutual
def spec_Complete.j0 : Nat → ByteArray → Int → Int → Int → Bool → Option (Int)
  | 0, _, _, _, _, _ => none
  | k + 1, x0, x1, x2, x3, x26 => if x26 = true then (some 0) else (if 0 < (x0.size : Int) then ((spec_Basic.f (bt x0 0)).bind fun t113 => (if t113 = true then (spec_Complete.j1 k x0 x1 x2 x3 true) else (spec_Complete.j1 k x0 x1 x2 x3 ((bt x0 0) == 118)))) else (none))
def spec_Complete.j1 : Nat → ByteArray → Int → Int → Int → Bool → Option (Int)
  | 0, _, _, _, _, _ => none
  | k + 1, x0, x1, x2, x3, x27 => if x27 = true then (some 1) else (if 0 < (x0.size : Int) then (if (bt x0 0) = 97 then (if (x0.size : Int) > 1 then (if 1 < (x0.size : Int) then (spec_Complete.j2 k x0 x1 x2 x3 ((bt x0 1) == 123)) else (none)) else (spec_Complete.j2 k x0 x1 x2 x3 false)) else (spec_Complete.j2 k x0 x1 x2 x3 false)) else (none))
def spec_Complete.j2 : Nat → ByteArray → Int → Int → Int → Bool → Option (Int)
  | 0, _, _, _, _, _ => none
  | k + 1, x0, x1, x2, x3, x36 => if x36 = true then (if (x0.size : Int) < 4 then (spec_Complete.j3 k x0 x1 x2 x3 true) else (if 2 < (x0.size : Int) then ((spec_Basic.f (bt x0 2)).bind fun t114 => (spec_Complete.j3 k x0 x1 x2 x3 (!t114))) else (none))) else (if 0 < (x0.size : Int) then (if (bt x0 0) = 97 then (if 1 ≤ (x0.size : Int) then ((spec_Complete.f k (x0.extract 1 x0.size) (wrap64 (x1 - 1)) x2 x3).bind fun t116 => (if t116 > 0 then (some (wrap64 (t116 + 1))) else (some 0))) else (none)) else (if (bt x0 0) = 40 then (spec_Complete.l0 k x0 x1 x2 x3 1) else (some 0))) else (none))
def spec_Complete.j3 : Nat → ByteArray → Int → Int → Int → Bool → Option (Int)
  | 0, _, _, _, _, _ => none
  | k + 1, x0, x1, x2, x3, x58 => if x58 = true then (some 0) else (if 3 ≤ (x0.size : Int) then ((spec_Complete.f k (x0.extract 3 x0.size) (wrap64 (x1 - 1)) x2 (wrap64 (x3 - 1))).bind fun t115 => (if t115 = 0 then (some 0) else (if (x0.size : Int) < (wrap64 (t115 + 4)) then (some 0) else (if 0 ≤ (wrap64 (t115 + 3)) then (if (wrap64 (t115 + 3)) < (x0.size : Int) then (if (bt x0 (wrap64 (t115 + 3))) = 125 then (some (wrap64 (t115 + 4))) else (some 0)) else (none)) else (none))))) else (none))
def spec_Complete.l0 : Nat → ByteArray → Int → Int → Int → Int → Option (Int)
  | 0, _, _, _, _, _ => none
  | k + 1, x0, x1, x2, x3, x11 => if x11 < (x0.size : Int) then (if 0 ≤ x11 then (spec_Complete.j5 k x0 x1 x2 x3 x11 ((bt x0 x11) != 41)) else (none)) else (spec_Complete.j5 k x0 x1 x2 x3 x11 false)
def spec_Complete.j5 : Nat → ByteArray → Int → Int → Int → Int → Bool → Option (Int)
  | 0, _, _, _, _, _, _ => none
  | k + 1, x0, x1, x2, x3, x11, x113 => if x113 = true then (if 0 ≤ x11 then (if x11 ≤ (x0.size : Int) then ((spec_Complete.f k (x0.extract (x11 : Int).toNat x0.size) x1 (wrap64 (x2 - 1)) x3).bind fun t117 => (if t117 = 0 then (some 0) else (spec_Complete.l0 k x0 x1 x2 x3 (wrap64 (x11 + t117))))) else (none)) else (none)) else (if x11 > 1 then (if x11 < (x0.size : Int) then (some (wrap64 (x11 + 1))) else (some 0)) else (some 0))
def spec_Complete.f : Nat → ByteArray → Int → Int → Int → Option (Int)
  | 0, _, _, _, _ => none
  | k + 1, a0, a1, a2, a3 => if a0.toList = ([] : List UInt8) then (spec_Complete.j0 k a0 a1 a2 a3 true) else (if a1 < 0 then (spec_Complete.j0 k a0 a1 a2 a3 true) else (if a2 < 0 then (spec_Complete.j0 k a0 a1 a2 a3 true) else (spec_Complete.j0 k a0 a1 a2 a3 (decide (a3 < 0)))))
end
set_option maxHeartbeats 8000000 in
set_option maxRecDepth 100000 in
theorem spec_Complete.calls (k : Nat) : ∀ (a0 : ByteArray) (a1 : Int) (a2 : Int) (a3 : Int) (r : Int) (w : World) (h : spec_Complete.f k a0 a1 a2 a3 = some r),
    Calls Tryd.prog 54 #[.string a0, .int .i64 a1, .int .i64 a2, .int .i64 a3] w fun e w' => e = .returned (.int .i64 r) ∧ Drawn0 w w' := by
  induction k using Nat.strongRecOn with
  | _ k ih =>
  intro a0 a1 a2 a3 r w h
  cases k with
  | zero => exact absurd h (by simp [spec_Complete.f])
  | succ k =>
  simp only [spec_Complete.f] at h
  have H : (if a0.toList = ([] : List UInt8) then (spec_Complete.j0 k a0 a1 a2 a3 true) else (if a1 < 0 then (spec_Complete.j0 k a0 a1 a2 a3 true) else (if a2 < 0 then (spec_Complete.j0 k a0 a1 a2 a3 true) else (spec_Complete.j0 k a0 a1 a2 a3 (decide (a3 < 0)))))) = some r := h
  clear h
  have HC5 := Aside0.mk H
  clear H
  go_enter Tryd.func54, Tryd.ntmps54
  go_upto_region 1 with (fail)
  go_cut [26] (fun v26 wc => ∃ (kq : Nat) (x26_4 : Bool), v26 = .bool x26_4 ∧ Aside0 (spec_Complete.j0 kq a0 a1 a2 a3 x26_4 = some r) ∧ Aside0 (kq ≤ k) ∧ Drawn0 w wc)
  case first =>
    have H := HC5.out
    clear HC5
    by_cases c6 : a0.toList = ([] : List UInt8)
    · rw [if_pos c6] at H
      have c6b0 : (a0.toList == ([] : List UInt8)) = true := beq_iff_eq.mpr c6
      have c6b1 : (a0.toList != ([] : List UInt8)) = false := bne_eq_false_iff_eq.mpr c6
      clear c6
      (first | rw [c6b0] | (simp only [i64_w, i32_w]; rw [c6b0]) | skip)
      have H' := Aside0.mk H
      clear H
      go_wp2
      go_meet
      case rel => exact ⟨_, (true), (by first | rfl | (simp; done) | (simp [*]; done)), H', ⟨by first | omega | exact Nat.le_refl _⟩, by repeat (first | exact Drawn0.refl _ | apply Drawn0.step)⟩
    · rw [if_neg c6] at H
      have c6b0 : (a0.toList == ([] : List UInt8)) = false := beq_eq_false_iff_ne.mpr c6
      have c6b1 : (a0.toList != ([] : List UInt8)) = true := bne_iff_ne.mpr c6
      (first | rw [c6b0] | (simp only [i64_w, i32_w]; rw [c6b0]) | skip)
      by_cases c7 : a1 < 0
      · rw [if_pos c7] at H
        have c7b0 : decide (a1 < 0) = true := decide_eq_true c7
        clear c7
        have H' := Aside0.mk H
        clear H
        go_wp2
        go_meet
        case rel => exact ⟨_, (true), (by first | rfl | (simp; done) | (simp [*]; done)), H', ⟨by first | omega | exact Nat.le_refl _⟩, by repeat (first | exact Drawn0.refl _ | apply Drawn0.step)⟩
      · rw [if_neg c7] at H
        have c7b0 : decide (a1 < 0) = false := decide_eq_false c7
        clear c7
        by_cases c8 : a2 < 0
        · rw [if_pos c8] at H
          have c8b0 : decide (a2 < 0) = true := decide_eq_true c8
          clear c8
          have H' := Aside0.mk H
          clear H
          go_wp2
          go_meet
          case rel => exact ⟨_, (true), (by first | rfl | (simp; done) | (simp [*]; done)), H', ⟨by first | omega | exact Nat.le_refl _⟩, by repeat (first | exact Drawn0.refl _ | apply Drawn0.step)⟩
        · rw [if_neg c8] at H
          have c8b0 : decide (a2 < 0) = false := decide_eq_false c8
          clear c8
          have H' := Aside0.mk H
          clear H
          go_wp2
          go_meet
          case rel => exact ⟨_, (decide (a3 < 0)), (by first | rfl | (simp; done) | (simp [*]; done)), H', ⟨by first | omega | exact Nat.le_refl _⟩, by repeat (first | exact Drawn0.refl _ | apply Drawn0.step)⟩
  case rest =>
    clear HC5
    try clear p2
    try clear c5
    try clear c6
    try clear c6b0
    try clear c6b1
    try clear c7
    try clear c7b0
    try clear c8
    try clear c8b0
    obtain ⟨kq, x26_4, rfl, HA, HJ4, ⟨mc4, rfl⟩⟩ := hcut
    cases kq with
    | zero => exact absurd HA.out (by simp [spec_Complete.j0])
    | succ kj4 =>
      have H := HA.out
      clear HA
      simp only [spec_Complete.j0] at H
      by_cases c9 : x26_4 = true
      · subst c9
        have H1 : (some 0) = some r := by rw [if_pos rfl] at H; exact H
        clear H
        have H := H1
        clear H1
        obtain rfl := Option.some.inj H
        go_wp2
        go_ret
        exact ⟨by first | rfl | (simp; done) | (simp [*]; done), by repeat (first | exact Drawn0.refl _ | apply Drawn0.step)⟩
      · replace c9 := Bool.eq_false_iff.mpr c9
        subst c9
        have H1 : (if 0 < (a0.size : Int) then ((spec_Basic.f (bt a0 0)).bind fun t113 => (if t113 = true then (spec_Complete.j1 kj4 a0 a1 a2 a3 true) else (spec_Complete.j1 kj4 a0 a1 a2 a3 ((bt a0 0) == 118)))) else (none)) = some r := by rw [if_neg (show ¬ (false = true) by decide)] at H; exact H
        clear H
        have H := H1
        clear H1
        have HC10 := Aside0.mk H
        clear H
        go_upto_region 3 with (fail)
        go_cut [27] (fun v27 wc => ∃ (kq : Nat) (x27_9 : Bool), v27 = .bool x27_9 ∧ Aside0 (spec_Complete.j1 kq a0 a1 a2 a3 x27_9 = some r) ∧ Aside0 (kq ≤ kj4) ∧ Drawn0 w wc)
        case first =>
          have H := HC10.out
          clear HC10
          by_cases c11 : 0 < (a0.size : Int)
          · rw [if_pos c11] at H
            have c11b0 : decide (0 < (a0.size : Int)) = true := decide_eq_true c11
            have c11b1 : decide (0 < a0.size) = true := decide_eq_true (by omega)
            clear c11
            (first | rw [c11b0] | (simp only [i64_w, i32_w]; rw [c11b0]) | skip)
            replace H := Option.bind_eq_some_iff.mp H
            obtain ⟨t113, A130, H⟩ := H
            replace H : (if t113 = true then (spec_Complete.j1 kj4 a0 a1 a2 a3 true) else (spec_Complete.j1 kj4 a0 a1 a2 a3 ((bt a0 0) == 118))) = some r := H
            have A13 := Aside0.mk A130
            clear A130
            by_cases c14 : t113 = true
            · subst c14
              have H1 : (spec_Complete.j1 kj4 a0 a1 a2 a3 true) = some r := by rw [if_pos rfl] at H; exact H
              clear H
              have H := H1
              clear H1
              have H' := Aside0.mk H
              clear H
              have p12 : 0 ≤ (0 : Int) := (by omega)
              have q12 : 0 < a0.size := (by have : (0 : Int) < (a0.size : Int) := of_decide_eq_true (by first | (with_reducible assumption) | assumption); omega)
              have hx12 : ∀ h : 0 < a0.size, ((a0[0]'h).toNat : Int) = bt a0 0 := bt_at a0 0
              clear p12
              have qi12 : (0 < (a0.size : Int)) = True := eq_true (of_decide_eq_true (by first | (with_reducible assumption) | assumption))
              replace q12 := eq_true q12
              go_wp2_with (first | ((with_reducible refine gate_callee (f := 26) rfl ?_); refine goesL_ (some 30) rfl rfl Tryd.func26 (by kernel_rfl) rfl #[.int .u8 (bt a0 0)] rfl (by (try simp only [List.map_toArray, List.map_cons, List.map_nil]); first | done | rfl | (simp only [List.length_drop, List.length_take]; rfl)) ?_; (with_reducible refine (spec_Basic.calls (bt a0 0) true _ A13.out).mono ?_); rintro e w' ⟨rfl, ⟨nd, rfl⟩⟩; refine ⟨_, rfl, ?_⟩))
              go_meet
              case rel => exact ⟨_, (true), (by first | rfl | (simp; done) | (simp [*]; done)), H', ⟨by have := HJ4.out; first | omega | exact Nat.le_refl _⟩, by repeat (first | exact Drawn0.refl _ | apply Drawn0.step)⟩
            · replace c14 := Bool.eq_false_iff.mpr c14
              subst c14
              have H1 : (spec_Complete.j1 kj4 a0 a1 a2 a3 ((bt a0 0) == 118)) = some r := by rw [if_neg (show ¬ (false = true) by decide)] at H; exact H
              clear H
              have H := H1
              clear H1
              have H' := Aside0.mk H
              clear H
              have p12 : 0 ≤ (0 : Int) := (by omega)
              have q12 : 0 < a0.size := (by have : (0 : Int) < (a0.size : Int) := of_decide_eq_true (by first | (with_reducible assumption) | assumption); omega)
              have hx12 : ∀ h : 0 < a0.size, ((a0[0]'h).toNat : Int) = bt a0 0 := bt_at a0 0
              clear p12
              have qi12 : (0 < (a0.size : Int)) = True := eq_true (of_decide_eq_true (by first | (with_reducible assumption) | assumption))
              replace q12 := eq_true q12
              go_wp2_with (first | ((with_reducible refine gate_callee (f := 26) rfl ?_); refine goesL_ (some 30) rfl rfl Tryd.func26 (by kernel_rfl) rfl #[.int .u8 (bt a0 0)] rfl (by (try simp only [List.map_toArray, List.map_cons, List.map_nil]); first | done | rfl | (simp only [List.length_drop, List.length_take]; rfl)) ?_; (with_reducible refine (spec_Basic.calls (bt a0 0) false _ A13.out).mono ?_); rintro e w' ⟨rfl, ⟨nd, rfl⟩⟩; refine ⟨_, rfl, ?_⟩; have p15 : 0 ≤ (0 : Int) := (by omega); have q15 : 0 < a0.size := (by have : (0 : Int) < (a0.size : Int) := of_decide_eq_true (by first | (with_reducible assumption) | assumption); omega); have hx15 : ∀ h : 0 < a0.size, ((a0[0]'h).toNat : Int) = bt a0 0 := bt_at a0 0; clear p15; have qi15 : (0 < (a0.size : Int)) = True := eq_true (of_decide_eq_true (by first | (with_reducible assumption) | assumption)); replace q15 := eq_true q15))
              go_meet
              case rel => exact ⟨_, (((bt a0 0) == 118)), (by first | rfl | (simp; done) | (simp [*]; done)), H', ⟨by have := HJ4.out; first | omega | exact Nat.le_refl _⟩, by repeat (first | exact Drawn0.refl _ | apply Drawn0.step)⟩
          · rw [if_neg c11] at H
            exact absurd H (by simp)
        case rest =>
          clear HC10
          try clear c1
          try clear p1
          try clear q1
          try clear hx1
          try clear qi1
          try clear c2
          try clear p2
          try clear c4
          try clear c5
          try clear c6
          try clear c6b0
          try clear c6b1
          try clear c7
          try clear c7b0
          try clear c8
          try clear c8b0
          try clear c9
          try clear c11
          try clear c11b0
          try clear c11b1
          try clear p12
          try clear q12
          try clear hx12
          try clear qi12
          try clear c14
          try clear p15
          try clear q15
          try clear hx15
          try clear qi15
          try clear p12
          try clear p15
          try clear p2
          try clear q12
          try clear q15
          obtain ⟨kq, x27_9, rfl, HA, HJ9, ⟨mc9, rfl⟩⟩ := hcut
          cases kq with
          | zero => exact absurd HA.out (by simp [spec_Complete.j1])
          | succ kj9 =>
            have H := HA.out
            clear HA
            simp only [spec_Complete.j1] at H
            by_cases c16 : x27_9 = true
            · subst c16
              have H1 : (some 1) = some r := by rw [if_pos rfl] at H; exact H
              clear H
              have H := H1
              clear H1
              obtain rfl := Option.some.inj H
              go_wp2
              go_ret
              exact ⟨by first | rfl | (simp; done) | (simp [*]; done), by repeat (first | exact Drawn0.refl _ | apply Drawn0.step)⟩
            · replace c16 := Bool.eq_false_iff.mpr c16
              subst c16
              have H1 : (if 0 < (a0.size : Int) then (if (bt a0 0) = 97 then (if (a0.size : Int) > 1 then (if 1 < (a0.size : Int) then (spec_Complete.j2 kj9 a0 a1 a2 a3 ((bt a0 1) == 123)) else (none)) else (spec_Complete.j2 kj9 a0 a1 a2 a3 false)) else (spec_Complete.j2 kj9 a0 a1 a2 a3 false)) else (none)) = some r := by rw [if_neg (show ¬ (false = true) by decide)] at H; exact H
              clear H
              have H := H1
              clear H1
              have HC17 := Aside0.mk H
              clear H
              go_upto_region 5 with (fail)
              go_cut [36] (fun v36 wc => ∃ (kq : Nat) (x36_16 : Bool), v36 = .bool x36_16 ∧ Aside0 (spec_Complete.j2 kq a0 a1 a2 a3 x36_16 = some r) ∧ Aside0 (kq ≤ kj9) ∧ Drawn0 w wc)
              case first =>
                have H := HC17.out
                clear HC17
                by_cases c18 : 0 < (a0.size : Int)
                · rw [if_pos c18] at H
                  have c18b0 : decide (0 < (a0.size : Int)) = true := decide_eq_true c18
                  have c18b1 : decide (0 < a0.size) = true := decide_eq_true (by omega)
                  clear c18
                  (first | rw [c18b0] | (simp only [i64_w, i32_w]; rw [c18b0]) | skip)
                  by_cases c20 : (bt a0 0) = 97
                  · rw [if_pos c20] at H
                    have c20b0 : ((bt a0 0) == 97) = true := beq_iff_eq.mpr c20
                    have c20b1 : ((bt a0 0) != 97) = false := bne_eq_false_iff_eq.mpr c20
                    clear c20
                    by_cases c21 : (a0.size : Int) > 1
                    · rw [if_pos c21] at H
                      have c21b0 : decide (1 < (a0.size : Int)) = true := decide_eq_true c21
                      have c21b1 : decide (1 < a0.size) = true := decide_eq_true (by omega)
                      clear c21
                      by_cases c22 : 1 < (a0.size : Int)
                      · rw [if_pos c22] at H
                        have c22b0 : decide (1 < (a0.size : Int)) = true := decide_eq_true c22
                        have c22b1 : decide (1 < a0.size) = true := decide_eq_true (by omega)
                        clear c22
                        have H' := Aside0.mk H
                        clear H
                        have p19 : 0 ≤ (0 : Int) := (by omega)
                        have q19 : 0 < a0.size := (by have : (0 : Int) < (a0.size : Int) := of_decide_eq_true (by first | (with_reducible assumption) | assumption); omega)
                        have hx19 : ∀ h : 0 < a0.size, ((a0[0]'h).toNat : Int) = bt a0 0 := bt_at a0 0
                        clear p19
                        have qi19 : (0 < (a0.size : Int)) = True := eq_true (of_decide_eq_true (by first | (with_reducible assumption) | assumption))
                        replace q19 := eq_true q19
                        have p23 : 0 ≤ (1 : Int) := (by omega)
                        have q23 : 1 < a0.size := (by have : (1 : Int) < (a0.size : Int) := of_decide_eq_true (by first | (with_reducible assumption) | assumption); omega)
                        have hx23 : ∀ h : 1 < a0.size, ((a0[1]'h).toNat : Int) = bt a0 1 := bt_at a0 1
                        clear p23
                        have qi23 : (1 < (a0.size : Int)) = True := eq_true (of_decide_eq_true (by first | (with_reducible assumption) | assumption))
                        replace q23 := eq_true q23
                        go_wp2
                        go_meet
                        case rel => exact ⟨_, (((bt a0 1) == 123)), (by first | rfl | (simp; done) | (simp [*]; done)), H', ⟨by have := HJ4.out; have := HJ9.out; first | omega | exact Nat.le_refl _⟩, by repeat (first | exact Drawn0.refl _ | apply Drawn0.step)⟩
                      · rw [if_neg c22] at H
                        exact absurd H (by simp)
                    · rw [if_neg c21] at H
                      have c21b0 : decide (1 < (a0.size : Int)) = false := decide_eq_false c21
                      have c21b1 : decide (1 < a0.size) = false := decide_eq_false (by omega)
                      clear c21
                      have H' := Aside0.mk H
                      clear H
                      have p19 : 0 ≤ (0 : Int) := (by omega)
                      have q19 : 0 < a0.size := (by have : (0 : Int) < (a0.size : Int) := of_decide_eq_true (by first | (with_reducible assumption) | assumption); omega)
                      have hx19 : ∀ h : 0 < a0.size, ((a0[0]'h).toNat : Int) = bt a0 0 := bt_at a0 0
                      clear p19
                      have qi19 : (0 < (a0.size : Int)) = True := eq_true (of_decide_eq_true (by first | (with_reducible assumption) | assumption))
                      replace q19 := eq_true q19
                      go_wp2
                      go_meet
                      case rel => exact ⟨_, (false), (by first | rfl | (simp; done) | (simp [*]; done)), H', ⟨by have := HJ4.out; have := HJ9.out; first | omega | exact Nat.le_refl _⟩, by repeat (first | exact Drawn0.refl _ | apply Drawn0.step)⟩
                  · rw [if_neg c20] at H
                    have c20b0 : ((bt a0 0) == 97) = false := beq_eq_false_iff_ne.mpr c20
                    have c20b1 : ((bt a0 0) != 97) = true := bne_iff_ne.mpr c20
                    have H' := Aside0.mk H
                    clear H
                    have p19 : 0 ≤ (0 : Int) := (by omega)
                    have q19 : 0 < a0.size := (by have : (0 : Int) < (a0.size : Int) := of_decide_eq_true (by first | (with_reducible assumption) | assumption); omega)
                    have hx19 : ∀ h : 0 < a0.size, ((a0[0]'h).toNat : Int) = bt a0 0 := bt_at a0 0
                    clear p19
                    have qi19 : (0 < (a0.size : Int)) = True := eq_true (of_decide_eq_true (by first | (with_reducible assumption) | assumption))
                    replace q19 := eq_true q19
                    go_wp2
                    go_meet
                    case rel => exact ⟨_, (false), (by first | rfl | (simp; done) | (simp [*]; done)), H', ⟨by have := HJ4.out; have := HJ9.out; first | omega | exact Nat.le_refl _⟩, by repeat (first | exact Drawn0.refl _ | apply Drawn0.step)⟩
                · rw [if_neg c18] at H
                  exact absurd H (by simp)
              case rest =>
                clear HC17
                try clear c1
                try clear p1
                try clear q1
                try clear hx1
                try clear qi1
                try clear c2
                try clear p2
                try clear q2
                try clear hx2
                try clear qi2
                try clear c4
                try clear c5
                try clear c6
                try clear c6b0
                try clear c6b1
                try clear c7
                try clear c7b0
                try clear c8
                try clear c8b0
                try clear c9
                try clear c11
                try clear c11b0
                try clear c11b1
                try clear p12
                try clear q12
                try clear hx12
                try clear qi12
                try clear c14
                try clear p15
                try clear q15
                try clear hx15
                try clear qi15
                try clear c16
                try clear c18
                try clear c18b0
                try clear c18b1
                try clear p19
                try clear q19
                try clear hx19
                try clear qi19
                try clear c20
                try clear c20b0
                try clear c20b1
                try clear c21
                try clear c21b0
                try clear c21b1
                try clear c22
                try clear c22b0
                try clear c22b1
                try clear p23
                try clear q23
                try clear hx23
                try clear qi23
                try clear p1
                try clear p12
                try clear p15
                try clear p19
                try clear p2
                try clear p23
                try clear q1
                try clear q12
                try clear q15
                try clear q19
                try clear q23
                obtain ⟨kq, x36_16, rfl, HA, HJ16, ⟨mc16, rfl⟩⟩ := hcut
                cases kq with
                | zero => exact absurd HA.out (by simp [spec_Complete.j2])
                | succ kj16 =>
                  have H := HA.out
                  clear HA
                  simp only [spec_Complete.j2] at H
                  by_cases c24 : x36_16 = true
                  · subst c24
                    have H1 : (if (a0.size : Int) < 4 then (spec_Complete.j3 kj16 a0 a1 a2 a3 true) else (if 2 < (a0.size : Int) then ((spec_Basic.f (bt a0 2)).bind fun t114 => (spec_Complete.j3 kj16 a0 a1 a2 a3 (!t114))) else (none))) = some r := by rw [if_pos rfl] at H; exact H
                    clear H
                    have H := H1
                    clear H1
                    have HC25 := Aside0.mk H
                    clear H
                    go_upto_region 6 with (fail)
                    go_cut [58] (fun v58 wc => ∃ (kq : Nat) (x58_24 : Bool), v58 = .bool x58_24 ∧ Aside0 (spec_Complete.j3 kq a0 a1 a2 a3 x58_24 = some r) ∧ Aside0 (kq ≤ kj16) ∧ Drawn0 w wc)
                    case first =>
                      have H := HC25.out
                      clear HC25
                      by_cases c26 : (a0.size : Int) < 4
                      · rw [if_pos c26] at H
                        have c26b0 : decide ((a0.size : Int) < 4) = true := decide_eq_true c26
                        have c26b1 : decide (a0.size < 4) = true := decide_eq_true (by omega)
                        clear c26
                        (first | rw [c26b0] | (simp only [i64_w, i32_w]; rw [c26b0]) | skip)
                        have H' := Aside0.mk H
                        clear H
                        go_wp2
                        go_meet
                        case rel => exact ⟨_, (true), (by first | rfl | (simp; done) | (simp [*]; done)), H', ⟨by have := HJ4.out; have := HJ9.out; have := HJ16.out; first | omega | exact Nat.le_refl _⟩, by repeat (first | exact Drawn0.refl _ | apply Drawn0.step)⟩
                      · rw [if_neg c26] at H
                        have c26b0 : decide ((a0.size : Int) < 4) = false := decide_eq_false c26
                        have c26b1 : decide (a0.size < 4) = false := decide_eq_false (by omega)
                        clear c26
                        (first | rw [c26b0] | (simp only [i64_w, i32_w]; rw [c26b0]) | skip)
                        by_cases c27 : 2 < (a0.size : Int)
                        · rw [if_pos c27] at H
                          have c27b0 : decide (2 < (a0.size : Int)) = true := decide_eq_true c27
                          have c27b1 : decide (2 < a0.size) = true := decide_eq_true (by omega)
                          clear c27
                          replace H := Option.bind_eq_some_iff.mp H
                          obtain ⟨t114, A290, H⟩ := H
                          replace H : (spec_Complete.j3 kj16 a0 a1 a2 a3 (!t114)) = some r := H
                          have A29 := Aside0.mk A290
                          clear A290
                          have H' := Aside0.mk H
                          clear H
                          have p28 : 0 ≤ (2 : Int) := (by omega)
                          have q28 : 2 < a0.size := (by have : (2 : Int) < (a0.size : Int) := of_decide_eq_true (by first | (with_reducible assumption) | assumption); omega)
                          have hx28 : ∀ h : 2 < a0.size, ((a0[2]'h).toNat : Int) = bt a0 2 := bt_at a0 2
                          clear p28
                          have qi28 : (2 < (a0.size : Int)) = True := eq_true (of_decide_eq_true (by first | (with_reducible assumption) | assumption))
                          replace q28 := eq_true q28
                          go_wp2_with (first | (go_at_call 26; (with_reducible refine (spec_Basic.calls (bt a0 2) t114 _ A29.out).mono ?_); rintro e w' ⟨rfl, ⟨nd, rfl⟩⟩))
                          go_meet
                          case rel => exact ⟨_, (!t114), (by first | rfl | (simp; done) | (simp [*]; done)), H', ⟨by have := HJ4.out; have := HJ9.out; have := HJ16.out; first | omega | exact Nat.le_refl _⟩, by repeat (first | exact Drawn0.refl _ | apply Drawn0.step)⟩
                        · rw [if_neg c27] at H
                          exact absurd H (by simp)
                    case rest =>
                      clear HC25
                      try clear c1
                      try clear p1
                      try clear q1
                      try clear hx1
                      try clear qi1
                      try clear c2
                      try clear p2
                      try clear q2
                      try clear hx2
                      try clear qi2
                      try clear c4
                      try clear c5
                      try clear c6
                      try clear c6b0
                      try clear c6b1
                      try clear c7
                      try clear c7b0
                      try clear c8
                      try clear c8b0
                      try clear c9
                      try clear c11
                      try clear c11b0
                      try clear c11b1
                      try clear p12
                      try clear q12
                      try clear hx12
                      try clear qi12
                      try clear c14
                      try clear p15
                      try clear q15
                      try clear hx15
                      try clear qi15
                      try clear c16
                      try clear c18
                      try clear c18b0
                      try clear c18b1
                      try clear p19
                      try clear q19
                      try clear hx19
                      try clear qi19
                      try clear c20
                      try clear c20b0
                      try clear c20b1
                      try clear c21
                      try clear c21b0
                      try clear c21b1
                      try clear c22
                      try clear c22b0
                      try clear c22b1
                      try clear p23
                      try clear q23
                      try clear hx23
                      try clear qi23
                      try clear c24
                      try clear c26
                      try clear c26b0
                      try clear c26b1
                      try clear c27
                      try clear c27b0
                      try clear c27b1
                      try clear p28
                      try clear q28
                      try clear hx28
                      try clear qi28
                      try clear p1
                      try clear p12
                      try clear p15
                      try clear p19
                      try clear p2
                      try clear p23
                      try clear p28
                      try clear q1
                      try clear q12
                      try clear q15
                      try clear q19
                      try clear q2
                      try clear q23
                      try clear q28
                      obtain ⟨kq, x58_24, rfl, HA, HJ24, ⟨mc24, rfl⟩⟩ := hcut
                      cases kq with
                      | zero => exact absurd HA.out (by simp [spec_Complete.j3])
                      | succ kj24 =>
                        have H := HA.out
                        clear HA
                        simp only [spec_Complete.j3] at H
                        by_cases c30 : x58_24 = true
                        · subst c30
                          have H1 : (some 0) = some r := by rw [if_pos rfl] at H; exact H
                          clear H
                          have H := H1
                          clear H1
                          obtain rfl := Option.some.inj H
                          go_wp2
                          go_ret
                          exact ⟨by first | rfl | (simp; done) | (simp [*]; done), by repeat (first | exact Drawn0.refl _ | apply Drawn0.step)⟩
                        · replace c30 := Bool.eq_false_iff.mpr c30
                          subst c30
                          have H1 : (if 3 ≤ (a0.size : Int) then ((spec_Complete.f kj24 (a0.extract 3 a0.size) (wrap64 (a1 - 1)) a2 (wrap64 (a3 - 1))).bind fun t115 => (if t115 = 0 then (some 0) else (if (a0.size : Int) < (wrap64 (t115 + 4)) then (some 0) else (if 0 ≤ (wrap64 (t115 + 3)) then (if (wrap64 (t115 + 3)) < (a0.size : Int) then (if (bt a0 (wrap64 (t115 + 3))) = 125 then (some (wrap64 (t115 + 4))) else (some 0)) else (none)) else (none))))) else (none)) = some r := by rw [if_neg (show ¬ (false = true) by decide)] at H; exact H
                          clear H
                          have H := H1
                          clear H1
                          by_cases c31 : 3 ≤ (a0.size : Int)
                          · rw [if_pos c31] at H
                            have c31b0 := eq_true c31
                            have c31b1 : decide (3 ≤ (a0.size : Int)) = true := decide_eq_true c31
                            clear c31
                            replace H := Option.bind_eq_some_iff.mp H
                            obtain ⟨t115, A320, H⟩ := H
                            replace H : (if t115 = 0 then (some 0) else (if (a0.size : Int) < (wrap64 (t115 + 4)) then (some 0) else (if 0 ≤ (wrap64 (t115 + 3)) then (if (wrap64 (t115 + 3)) < (a0.size : Int) then (if (bt a0 (wrap64 (t115 + 3))) = 125 then (some (wrap64 (t115 + 4))) else (some 0)) else (none)) else (none)))) = some r := H
                            have A32 := Aside0.mk A320
                            clear A320
                            by_cases c33 : t115 = 0
                            · rw [if_pos c33] at H
                              have c33b0 : (t115 == 0) = true := beq_iff_eq.mpr c33
                              have c33b1 : (t115 != 0) = false := bne_eq_false_iff_eq.mpr c33
                              clear c33
                              obtain rfl := Option.some.inj H
                              go_wp2_with (first | ((with_reducible refine gate_callee (f := 54) rfl ?_); refine goesL_ (some 66) rfl rfl Tryd.func54 (by kernel_rfl) rfl #[.string (a0.extract 3 a0.size), .int .i64 (wrap64 (a1 - 1)), .int .i64 a2, .int .i64 (wrap64 (a3 - 1))] rfl (by (try simp only [List.map_toArray, List.map_cons, List.map_nil]); first | done | rfl | (simp only [List.length_drop, List.length_take]; rfl)) ?_; (with_reducible refine (ih kj24 (by have := HJ4.out; have := HJ9.out; have := HJ16.out; have := HJ24.out; omega) (a0.extract 3 a0.size) (wrap64 (a1 - 1)) a2 (wrap64 (a3 - 1)) t115 _ A32.out).mono ?_); rintro e w' ⟨rfl, ⟨nd, rfl⟩⟩; refine ⟨_, rfl, ?_⟩))
                              go_ret
                              exact ⟨by first | rfl | (simp; done) | (simp [*]; done), by repeat (first | exact Drawn0.refl _ | apply Drawn0.step)⟩
                            · rw [if_neg c33] at H
                              have c33b0 : (t115 == 0) = false := beq_eq_false_iff_ne.mpr c33
                              have c33b1 : (t115 != 0) = true := bne_iff_ne.mpr c33
                              by_cases c34 : (a0.size : Int) < (wrap64 (t115 + 4))
                              · rw [if_pos c34] at H
                                have c34b0 : decide ((a0.size : Int) < (wrap64 (t115 + 4))) = true := decide_eq_true c34
                                clear c34
                                obtain rfl := Option.some.inj H
                                go_wp2_with (first | ((with_reducible refine gate_callee (f := 54) rfl ?_); refine goesL_ (some 66) rfl rfl Tryd.func54 (by kernel_rfl) rfl #[.string (a0.extract 3 a0.size), .int .i64 (wrap64 (a1 - 1)), .int .i64 a2, .int .i64 (wrap64 (a3 - 1))] rfl (by (try simp only [List.map_toArray, List.map_cons, List.map_nil]); first | done | rfl | (simp only [List.length_drop, List.length_take]; rfl)) ?_; (with_reducible refine (ih kj24 (by have := HJ4.out; have := HJ9.out; have := HJ16.out; have := HJ24.out; omega) (a0.extract 3 a0.size) (wrap64 (a1 - 1)) a2 (wrap64 (a3 - 1)) t115 _ A32.out).mono ?_); rintro e w' ⟨rfl, ⟨nd, rfl⟩⟩; refine ⟨_, rfl, ?_⟩))
                                go_ret
                                exact ⟨by first | rfl | (simp; done) | (simp [*]; done), by repeat (first | exact Drawn0.refl _ | apply Drawn0.step)⟩
                              · rw [if_neg c34] at H
                                have c34b0 : decide ((a0.size : Int) < (wrap64 (t115 + 4))) = false := decide_eq_false c34
                                clear c34
                                obtain ⟨ji35, hji35⟩ : ∃ j_ : Int, (wrap64 (t115 + 3)) = j_ := ⟨_, rfl⟩
                                replace H : (if 0 ≤ (ji35) then (if (ji35) < (a0.size : Int) then (if (bt a0 (ji35)) = 125 then (some (wrap64 (t115 + 4))) else (some 0)) else (none)) else (none)) = some r := by first | (rw [hji35] at H; exact H) | (simp only [hji35] at H ⊢; exact H)
                                (try rw [hji35] at A32)
                                have hji35w : (IntKind.i64.wrap (t115 + 3)) = ji35 := (i64_w _).trans hji35
                                by_cases c36 : 0 ≤ (ji35)
                                · rw [if_pos c36] at H
                                  have c36b0 : decide (0 ≤ (ji35)) = true := decide_eq_true c36
                                  clear c36
                                  by_cases c37 : (ji35) < (a0.size : Int)
                                  · rw [if_pos c37] at H
                                    have c37b0 : decide ((ji35) < (a0.size : Int)) = true := decide_eq_true c37
                                    clear c37
                                    by_cases c39 : (bt a0 (ji35)) = 125
                                    · rw [if_pos c39] at H
                                      have c39b0 : ((bt a0 (ji35)) == 125) = true := beq_iff_eq.mpr c39
                                      have c39b1 : ((bt a0 (ji35)) != 125) = false := bne_eq_false_iff_eq.mpr c39
                                      clear c39
                                      obtain rfl := Option.some.inj H
                                      go_wp2_with (first | ((with_reducible refine gate_callee (f := 54) rfl ?_); refine goesL_ (some 66) rfl rfl Tryd.func54 (by kernel_rfl) rfl #[.string (a0.extract 3 a0.size), .int .i64 (wrap64 (a1 - 1)), .int .i64 a2, .int .i64 (wrap64 (a3 - 1))] rfl (by (try simp only [List.map_toArray, List.map_cons, List.map_nil]); first | done | rfl | (simp only [List.length_drop, List.length_take]; rfl)) ?_; (with_reducible refine (ih kj24 (by have := HJ4.out; have := HJ9.out; have := HJ16.out; have := HJ24.out; omega) (a0.extract 3 a0.size) (wrap64 (a1 - 1)) a2 (wrap64 (a3 - 1)) t115 _ A32.out).mono ?_); rintro e w' ⟨rfl, ⟨nd, rfl⟩⟩; refine ⟨_, rfl, ?_⟩; have p38 : 0 ≤ ((ji35) : Int) := of_decide_eq_true (by first | (with_reducible assumption) | assumption); have q38 : (ji35) < (a0.size : Int) := of_decide_eq_true (by first | (with_reducible assumption) | assumption); have hx38 := bt_at a0 (ji35); replace p38 := eq_true p38; replace q38 := eq_true q38))
                                      go_ret
                                      exact ⟨by first | rfl | (simp; done) | (simp only [← hji35] <;> (first | rfl | simp)) | (simp [*]; done), by repeat (first | exact Drawn0.refl _ | apply Drawn0.step)⟩
                                    · rw [if_neg c39] at H
                                      have c39b0 : ((bt a0 (ji35)) == 125) = false := beq_eq_false_iff_ne.mpr c39
                                      have c39b1 : ((bt a0 (ji35)) != 125) = true := bne_iff_ne.mpr c39
                                      obtain rfl := Option.some.inj H
                                      go_wp2_with (first | ((with_reducible refine gate_callee (f := 54) rfl ?_); refine goesL_ (some 66) rfl rfl Tryd.func54 (by kernel_rfl) rfl #[.string (a0.extract 3 a0.size), .int .i64 (wrap64 (a1 - 1)), .int .i64 a2, .int .i64 (wrap64 (a3 - 1))] rfl (by (try simp only [List.map_toArray, List.map_cons, List.map_nil]); first | done | rfl | (simp only [List.length_drop, List.length_take]; rfl)) ?_; (with_reducible refine (ih kj24 (by have := HJ4.out; have := HJ9.out; have := HJ16.out; have := HJ24.out; omega) (a0.extract 3 a0.size) (wrap64 (a1 - 1)) a2 (wrap64 (a3 - 1)) t115 _ A32.out).mono ?_); rintro e w' ⟨rfl, ⟨nd, rfl⟩⟩; refine ⟨_, rfl, ?_⟩; have p38 : 0 ≤ ((ji35) : Int) := of_decide_eq_true (by first | (with_reducible assumption) | assumption); have q38 : (ji35) < (a0.size : Int) := of_decide_eq_true (by first | (with_reducible assumption) | assumption); have hx38 := bt_at a0 (ji35); replace p38 := eq_true p38; replace q38 := eq_true q38))
                                      go_ret
                                      exact ⟨by first | rfl | (simp; done) | (simp only [← hji35] <;> (first | rfl | simp)) | (simp [*]; done), by repeat (first | exact Drawn0.refl _ | apply Drawn0.step)⟩
                                  · rw [if_neg c37] at H
                                    exact absurd H (by simp)
                                · rw [if_neg c36] at H
                                  exact absurd H (by simp)
                          · rw [if_neg c31] at H
                            exact absurd H (by simp)
                  · replace c24 := Bool.eq_false_iff.mpr c24
                    subst c24
                    have H1 : (if 0 < (a0.size : Int) then (if (bt a0 0) = 97 then (if 1 ≤ (a0.size : Int) then ((spec_Complete.f kj16 (a0.extract 1 a0.size) (wrap64 (a1 - 1)) a2 a3).bind fun t116 => (if t116 > 0 then (some (wrap64 (t116 + 1))) else (some 0))) else (none)) else (if (bt a0 0) = 40 then (spec_Complete.l0 kj16 a0 a1 a2 a3 1) else (some 0))) else (none)) = some r := by rw [if_neg (show ¬ (false = true) by decide)] at H; exact H
                    clear H
                    have H := H1
                    clear H1
                    by_cases c40 : 0 < (a0.size : Int)
                    · rw [if_pos c40] at H
                      have c40b0 : decide (0 < (a0.size : Int)) = true := decide_eq_true c40
                      have c40b1 : decide (0 < a0.size) = true := decide_eq_true (by omega)
                      clear c40
                      by_cases c42 : (bt a0 0) = 97
                      · rw [if_pos c42] at H
                        have c42b0 : ((bt a0 0) == 97) = true := beq_iff_eq.mpr c42
                        have c42b1 : ((bt a0 0) != 97) = false := bne_eq_false_iff_eq.mpr c42
                        clear c42
                        by_cases c43 : 1 ≤ (a0.size : Int)
                        · rw [if_pos c43] at H
                          have c43b0 := eq_true c43
                          have c43b1 : decide (1 ≤ (a0.size : Int)) = true := decide_eq_true c43
                          clear c43
                          replace H := Option.bind_eq_some_iff.mp H
                          obtain ⟨t116, A440, H⟩ := H
                          replace H : (if t116 > 0 then (some (wrap64 (t116 + 1))) else (some 0)) = some r := H
                          have A44 := Aside0.mk A440
                          clear A440
                          by_cases c45 : t116 > 0
                          · rw [if_pos c45] at H
                            have c45b0 : decide (0 < t116) = true := decide_eq_true c45
                            clear c45
                            obtain rfl := Option.some.inj H
                            have p41 : 0 ≤ (0 : Int) := (by omega)
                            have q41 : 0 < a0.size := (by have : (0 : Int) < (a0.size : Int) := of_decide_eq_true (by first | (with_reducible assumption) | assumption); omega)
                            have hx41 : ∀ h : 0 < a0.size, ((a0[0]'h).toNat : Int) = bt a0 0 := bt_at a0 0
                            clear p41
                            have qi41 : (0 < (a0.size : Int)) = True := eq_true (of_decide_eq_true (by first | (with_reducible assumption) | assumption))
                            replace q41 := eq_true q41
                            go_wp2_with (first | ((with_reducible refine gate_callee (f := 54) rfl ?_); refine goesL_ (some 95) rfl rfl Tryd.func54 (by kernel_rfl) rfl #[.string (a0.extract 1 a0.size), .int .i64 (wrap64 (a1 - 1)), .int .i64 a2, .int .i64 a3] rfl (by (try simp only [List.map_toArray, List.map_cons, List.map_nil]); first | done | rfl | (simp only [List.length_drop, List.length_take]; rfl)) ?_; (with_reducible refine (ih kj16 (by have := HJ4.out; have := HJ9.out; have := HJ16.out; omega) (a0.extract 1 a0.size) (wrap64 (a1 - 1)) a2 a3 t116 _ A44.out).mono ?_); rintro e w' ⟨rfl, ⟨nd, rfl⟩⟩; refine ⟨_, rfl, ?_⟩))
                            go_ret
                            exact ⟨by first | rfl | (simp; done) | (simp [*]; done), by repeat (first | exact Drawn0.refl _ | apply Drawn0.step)⟩
                          · rw [if_neg c45] at H
                            have c45b0 : decide (0 < t116) = false := decide_eq_false c45
                            clear c45
                            obtain rfl := Option.some.inj H
                            have p41 : 0 ≤ (0 : Int) := (by omega)
                            have q41 : 0 < a0.size := (by have : (0 : Int) < (a0.size : Int) := of_decide_eq_true (by first | (with_reducible assumption) | assumption); omega)
                            have hx41 : ∀ h : 0 < a0.size, ((a0[0]'h).toNat : Int) = bt a0 0 := bt_at a0 0
                            clear p41
                            have qi41 : (0 < (a0.size : Int)) = True := eq_true (of_decide_eq_true (by first | (with_reducible assumption) | assumption))
                            replace q41 := eq_true q41
                            go_wp2_with (first | ((with_reducible refine gate_callee (f := 54) rfl ?_); refine goesL_ (some 95) rfl rfl Tryd.func54 (by kernel_rfl) rfl #[.string (a0.extract 1 a0.size), .int .i64 (wrap64 (a1 - 1)), .int .i64 a2, .int .i64 a3] rfl (by (try simp only [List.map_toArray, List.map_cons, List.map_nil]); first | done | rfl | (simp only [List.length_drop, List.length_take]; rfl)) ?_; (with_reducible refine (ih kj16 (by have := HJ4.out; have := HJ9.out; have := HJ16.out; omega) (a0.extract 1 a0.size) (wrap64 (a1 - 1)) a2 a3 t116 _ A44.out).mono ?_); rintro e w' ⟨rfl, ⟨nd, rfl⟩⟩; refine ⟨_, rfl, ?_⟩))
                            go_ret
                            exact ⟨by first | rfl | (simp; done) | (simp [*]; done), by repeat (first | exact Drawn0.refl _ | apply Drawn0.step)⟩
                        · rw [if_neg c43] at H
                          exact absurd H (by simp)
                      · rw [if_neg c42] at H
                        have c42b0 : ((bt a0 0) == 97) = false := beq_eq_false_iff_ne.mpr c42
                        have c42b1 : ((bt a0 0) != 97) = true := bne_iff_ne.mpr c42
                        by_cases c47 : (bt a0 0) = 40
                        · rw [if_pos c47] at H
                          have c47b0 : ((bt a0 0) == 40) = true := beq_iff_eq.mpr c47
                          have c47b1 : ((bt a0 0) != 40) = false := bne_eq_false_iff_eq.mpr c47
                          clear c47
                          have H' := Aside0.mk H
                          clear H
                          have p41 : 0 ≤ (0 : Int) := (by omega)
                          have q41 : 0 < a0.size := (by have : (0 : Int) < (a0.size : Int) := of_decide_eq_true (by first | (with_reducible assumption) | assumption); omega)
                          have hx41 : ∀ h : 0 < a0.size, ((a0[0]'h).toNat : Int) = bt a0 0 := bt_at a0 0
                          clear p41
                          have qi41 : (0 < (a0.size : Int)) = True := eq_true (of_decide_eq_true (by first | (with_reducible assumption) | assumption))
                          replace q41 := eq_true q41
                          have p46 : 0 ≤ (0 : Int) := (by omega)
                          have q46 : 0 < a0.size := (by have : (0 : Int) < (a0.size : Int) := of_decide_eq_true (by first | (with_reducible assumption) | assumption); omega)
                          have hx46 : ∀ h : 0 < a0.size, ((a0[0]'h).toNat : Int) = bt a0 0 := bt_at a0 0
                          clear p46
                          have qi46 : (0 < (a0.size : Int)) = True := eq_true (of_decide_eq_true (by first | (with_reducible assumption) | assumption))
                          replace q46 := eq_true q46
                          go_wp2
                          go_loopg [11] kj16 (fun kq v11 w' => ∃ (x11_4 : Int), v11 = .int .i64 x11_4 ∧ Aside0 (spec_Complete.l0 kq a0 a1 a2 a3 x11_4 = some r) ∧ Aside0 (kq ≤ kj16) ∧ Drawn0 w w')
                          case atStart => exact ⟨(1), (by first | rfl | (simp; done) | (simp [*]; done)), H', ⟨Nat.le_refl _⟩, by repeat (first | exact Drawn0.refl _ | apply Drawn0.step)⟩
                          case round =>
                            clear H'
                            try clear c1
                            try clear p1
                            try clear q1
                            try clear hx1
                            try clear qi1
                            try clear c2
                            try clear p2
                            try clear q2
                            try clear hx2
                            try clear qi2
                            try clear c3
                            try clear p3
                            try clear q3
                            try clear hx3
                            try clear c4
                            try clear p4
                            try clear q4
                            try clear hx4
                            try clear qi4
                            try clear c5
                            try clear c6
                            try clear c6b0
                            try clear c6b1
                            try clear p6
                            try clear c7
                            try clear c7b0
                            try clear c8
                            try clear c8b0
                            try clear c9
                            try clear c11
                            try clear c11b0
                            try clear c11b1
                            try clear p12
                            try clear q12
                            try clear hx12
                            try clear qi12
                            try clear c14
                            try clear p15
                            try clear q15
                            try clear hx15
                            try clear qi15
                            try clear c16
                            try clear c18
                            try clear c18b0
                            try clear c18b1
                            try clear p19
                            try clear q19
                            try clear hx19
                            try clear qi19
                            try clear c20
                            try clear c20b0
                            try clear c20b1
                            try clear c21
                            try clear c21b0
                            try clear c21b1
                            try clear c22
                            try clear c22b0
                            try clear c22b1
                            try clear p23
                            try clear q23
                            try clear hx23
                            try clear qi23
                            try clear c24
                            try clear c26
                            try clear c26b0
                            try clear c26b1
                            try clear c27
                            try clear c27b0
                            try clear c27b1
                            try clear p28
                            try clear q28
                            try clear hx28
                            try clear qi28
                            try clear c30
                            try clear c31
                            try clear c31b0
                            try clear c31b1
                            try clear c33
                            try clear c33b0
                            try clear c33b1
                            try clear c34
                            try clear c34b0
                            try clear c36
                            try clear c36b0
                            try clear c37
                            try clear c37b0
                            try clear p38
                            try clear q38
                            try clear hx38
                            try clear c39
                            try clear c39b0
                            try clear c39b1
                            try clear c40
                            try clear c40b0
                            try clear c40b1
                            try clear p41
                            try clear q41
                            try clear hx41
                            try clear qi41
                            try clear c42
                            try clear c42b0
                            try clear c42b1
                            try clear c43
                            try clear c43b0
                            try clear c43b1
                            try clear c45
                            try clear c45b0
                            try clear p46
                            try clear q46
                            try clear hx46
                            try clear qi46
                            try clear c47
                            try clear c47b0
                            try clear c47b1
                            try clear p1
                            try clear p12
                            try clear p15
                            try clear p19
                            try clear p2
                            try clear p23
                            try clear p28
                            try clear p38
                            try clear p41
                            try clear p46
                            try clear q1
                            try clear q12
                            try clear q15
                            try clear q19
                            try clear q2
                            try clear q23
                            try clear q28
                            try clear q38
                            try clear q41
                            try clear q46
                            obtain ⟨x11_4, rfl, HA, HK4, ⟨m4, rfl⟩⟩ := hrel
                            cases gk with
                            | zero => exact absurd HA.out (by simp [spec_Complete.l0])
                            | succ k4 =>
                              have H := HA.out
                              clear HA
                              simp only [spec_Complete.l0] at H
                              have HC48 := Aside0.mk H
                              clear H
                              go_upto_region 18 with (fail)
                              go_cut [113] (fun v113 wc => ∃ (kq : Nat) (x113_47 : Bool), v113 = .bool x113_47 ∧ Aside0 (spec_Complete.j5 kq a0 a1 a2 a3 x11_4 x113_47 = some r) ∧ Aside0 (kq ≤ k4) ∧ Drawn0 w wc)
                              case first =>
                                have H := HC48.out
                                clear HC48
                                by_cases c49 : x11_4 < (a0.size : Int)
                                · rw [if_pos c49] at H
                                  have c49b0 : decide (x11_4 < (a0.size : Int)) = true := decide_eq_true c49
                                  clear c49
                                  (first | rw [c49b0] | (simp only [i64_w, i32_w]; rw [c49b0]) | skip)
                                  by_cases c50 : 0 ≤ x11_4
                                  · rw [if_pos c50] at H
                                    have c50b0 : decide (0 ≤ x11_4) = true := decide_eq_true c50
                                    clear c50
                                    have H' := Aside0.mk H
                                    clear H
                                    have p51 : 0 ≤ (x11_4 : Int) := of_decide_eq_true (by first | (with_reducible assumption) | assumption)
                                    have q51 : x11_4 < (a0.size : Int) := of_decide_eq_true (by first | (with_reducible assumption) | assumption)
                                    have hx51 := bt_at a0 x11_4
                                    replace p51 := eq_true p51
                                    replace q51 := eq_true q51
                                    go_wp2
                                    go_meet
                                    case rel => exact ⟨_, (((bt a0 x11_4) != 41)), (by first | rfl | (simp; done) | (simp [*]; done)), H', ⟨by have := HJ4.out; have := HJ9.out; have := HJ16.out; have := HK4.out; first | omega | exact Nat.le_refl _⟩, by repeat (first | exact Drawn0.refl _ | apply Drawn0.step)⟩
                                  · rw [if_neg c50] at H
                                    exact absurd H (by simp)
                                · rw [if_neg c49] at H
                                  have c49b0 : decide (x11_4 < (a0.size : Int)) = false := decide_eq_false c49
                                  clear c49
                                  (first | rw [c49b0] | (simp only [i64_w, i32_w]; rw [c49b0]) | skip)
                                  have H' := Aside0.mk H
                                  clear H
                                  go_wp2
                                  go_meet
                                  case rel => exact ⟨_, (false), (by first | rfl | (simp; done) | (simp [*]; done)), H', ⟨by have := HJ4.out; have := HJ9.out; have := HJ16.out; have := HK4.out; first | omega | exact Nat.le_refl _⟩, by repeat (first | exact Drawn0.refl _ | apply Drawn0.step)⟩
                              case rest =>
                                clear HC48
                                try clear c1
                                try clear p1
                                try clear q1
                                try clear hx1
                                try clear qi1
                                try clear c2
                                try clear p2
                                try clear q2
                                try clear hx2
                                try clear qi2
                                try clear c3
                                try clear p3
                                try clear q3
                                try clear hx3
                                try clear c4
                                try clear p4
                                try clear q4
                                try clear hx4
                                try clear qi4
                                try clear c5
                                try clear p5
                                try clear q5
                                try clear hx5
                                try clear c6
                                try clear c6b0
                                try clear c6b1
                                try clear p6
                                try clear c7
                                try clear c7b0
                                try clear c8
                                try clear c8b0
                                try clear c9
                                try clear c11
                                try clear c11b0
                                try clear c11b1
                                try clear p12
                                try clear q12
                                try clear hx12
                                try clear qi12
                                try clear c14
                                try clear p15
                                try clear q15
                                try clear hx15
                                try clear qi15
                                try clear c16
                                try clear c18
                                try clear c18b0
                                try clear c18b1
                                try clear p19
                                try clear q19
                                try clear hx19
                                try clear qi19
                                try clear c20
                                try clear c20b0
                                try clear c20b1
                                try clear c21
                                try clear c21b0
                                try clear c21b1
                                try clear c22
                                try clear c22b0
                                try clear c22b1
                                try clear p23
                                try clear q23
                                try clear hx23
                                try clear qi23
                                try clear c24
                                try clear c26
                                try clear c26b0
                                try clear c26b1
                                try clear c27
                                try clear c27b0
                                try clear c27b1
                                try clear p28
                                try clear q28
                                try clear hx28
                                try clear qi28
                                try clear c30
                                try clear c31
                                try clear c31b0
                                try clear c31b1
                                try clear c33
                                try clear c33b0
                                try clear c33b1
                                try clear c34
                                try clear c34b0
                                try clear c36
                                try clear c36b0
                                try clear c37
                                try clear c37b0
                                try clear p38
                                try clear q38
                                try clear hx38
                                try clear c39
                                try clear c39b0
                                try clear c39b1
                                try clear c40
                                try clear c40b0
                                try clear c40b1
                                try clear p41
                                try clear q41
                                try clear hx41
                                try clear qi41
                                try clear c42
                                try clear c42b0
                                try clear c42b1
                                try clear c43
                                try clear c43b0
                                try clear c43b1
                                try clear c45
                                try clear c45b0
                                try clear p46
                                try clear q46
                                try clear hx46
                                try clear qi46
                                try clear c47
                                try clear c47b0
                                try clear c47b1
                                try clear c49
                                try clear c49b0
                                try clear c50
                                try clear c50b0
                                try clear p51
                                try clear q51
                                try clear hx51
                                try clear p1
                                try clear p12
                                try clear p15
                                try clear p19
                                try clear p2
                                try clear p23
                                try clear p28
                                try clear p3
                                try clear p38
                                try clear p4
                                try clear p41
                                try clear p46
                                try clear p51
                                try clear p6
                                try clear q1
                                try clear q12
                                try clear q15
                                try clear q19
                                try clear q2
                                try clear q23
                                try clear q28
                                try clear q3
                                try clear q38
                                try clear q4
                                try clear q41
                                try clear q46
                                try clear q51
                                obtain ⟨kq, x113_47, rfl, HA, HJ47, ⟨mc47, rfl⟩⟩ := hcut
                                cases kq with
                                | zero => exact absurd HA.out (by simp [spec_Complete.j5])
                                | succ kj47 =>
                                  have H := HA.out
                                  clear HA
                                  simp only [spec_Complete.j5] at H
                                  by_cases c52 : x113_47 = true
                                  · subst c52
                                    have H1 : (if 0 ≤ x11_4 then (if x11_4 ≤ (a0.size : Int) then ((spec_Complete.f kj47 (a0.extract (x11_4 : Int).toNat a0.size) a1 (wrap64 (a2 - 1)) a3).bind fun t117 => (if t117 = 0 then (some 0) else (spec_Complete.l0 kj47 a0 a1 a2 a3 (wrap64 (x11_4 + t117))))) else (none)) else (none)) = some r := by rw [if_pos rfl] at H; exact H
                                    clear H
                                    have H := H1
                                    clear H1
                                    by_cases c53 : 0 ≤ x11_4
                                    · rw [if_pos c53] at H
                                      have c53b0 := eq_true c53
                                      have c53b1 : decide (0 ≤ x11_4) = true := decide_eq_true c53
                                      clear c53
                                      by_cases c54 : x11_4 ≤ (a0.size : Int)
                                      · rw [if_pos c54] at H
                                        have c54b0 := eq_true c54
                                        have c54b1 : decide (x11_4 ≤ (a0.size : Int)) = true := decide_eq_true c54
                                        clear c54
                                        replace H := Option.bind_eq_some_iff.mp H
                                        obtain ⟨t117, A550, H⟩ := H
                                        replace H : (if t117 = 0 then (some 0) else (spec_Complete.l0 kj47 a0 a1 a2 a3 (wrap64 (x11_4 + t117)))) = some r := H
                                        have A55 := Aside0.mk A550
                                        clear A550
                                        by_cases c56 : t117 = 0
                                        · rw [if_pos c56] at H
                                          have c56b0 : (t117 == 0) = true := beq_iff_eq.mpr c56
                                          have c56b1 : (t117 != 0) = false := bne_eq_false_iff_eq.mpr c56
                                          clear c56
                                          obtain rfl := Option.some.inj H
                                          go_wp2_with (first | ((with_reducible refine gate_callee (f := 54) rfl ?_); refine goesL_ (some 121) rfl rfl Tryd.func54 (by kernel_rfl) rfl #[.string (a0.extract (x11_4 : Int).toNat a0.size), .int .i64 a1, .int .i64 (wrap64 (a2 - 1)), .int .i64 a3] rfl (by (try simp only [List.map_toArray, List.map_cons, List.map_nil]); first | done | rfl | (simp only [List.length_drop, List.length_take]; rfl)) ?_; (with_reducible refine (ih kj47 (by have := HJ4.out; have := HJ9.out; have := HJ16.out; have := HK4.out; have := HJ47.out; omega) (a0.extract (x11_4 : Int).toNat a0.size) a1 (wrap64 (a2 - 1)) a3 t117 _ A55.out).mono ?_); rintro e w' ⟨rfl, ⟨nd, rfl⟩⟩; refine ⟨_, rfl, ?_⟩))
                                          go_ret
                                          exact ⟨by first | rfl | (simp; done) | (simp [*]; done), by repeat (first | exact Drawn0.refl _ | apply Drawn0.step)⟩
                                        · rw [if_neg c56] at H
                                          have c56b0 : (t117 == 0) = false := beq_eq_false_iff_ne.mpr c56
                                          have c56b1 : (t117 != 0) = true := bne_iff_ne.mpr c56
                                          have H' := Aside0.mk H
                                          clear H
                                          go_wp2_with (first | ((with_reducible refine gate_callee (f := 54) rfl ?_); refine goesL_ (some 121) rfl rfl Tryd.func54 (by kernel_rfl) rfl #[.string (a0.extract (x11_4 : Int).toNat a0.size), .int .i64 a1, .int .i64 (wrap64 (a2 - 1)), .int .i64 a3] rfl (by (try simp only [List.map_toArray, List.map_cons, List.map_nil]); first | done | rfl | (simp only [List.length_drop, List.length_take]; rfl)) ?_; (with_reducible refine (ih kj47 (by have := HJ4.out; have := HJ9.out; have := HJ16.out; have := HK4.out; have := HJ47.out; omega) (a0.extract (x11_4 : Int).toNat a0.size) a1 (wrap64 (a2 - 1)) a3 t117 _ A55.out).mono ?_); rintro e w' ⟨rfl, ⟨nd, rfl⟩⟩; refine ⟨_, rfl, ?_⟩))
                                          go_roundg kj47
                                          case measure => have := HJ4.out; have := HJ9.out; have := HJ16.out; have := HK4.out; have := HJ47.out; omega
                                          case rel => exact ⟨(wrap64 (x11_4 + t117)), (by first | rfl | (simp; done) | (simp [*]; done)), H', ⟨by have := HJ4.out; have := HJ9.out; have := HJ16.out; have := HK4.out; have := HJ47.out; omega⟩, by repeat (first | exact Drawn0.refl _ | apply Drawn0.step)⟩
                                      · rw [if_neg c54] at H
                                        exact absurd H (by simp)
                                    · rw [if_neg c53] at H
                                      exact absurd H (by simp)
                                  · replace c52 := Bool.eq_false_iff.mpr c52
                                    subst c52
                                    have H1 : (if x11_4 > 1 then (if x11_4 < (a0.size : Int) then (some (wrap64 (x11_4 + 1))) else (some 0)) else (some 0)) = some r := by rw [if_neg (show ¬ (false = true) by decide)] at H; exact H
                                    clear H
                                    have H := H1
                                    clear H1
                                    by_cases c57 : x11_4 > 1
                                    · rw [if_pos c57] at H
                                      have c57b0 : decide (1 < x11_4) = true := decide_eq_true c57
                                      clear c57
                                      by_cases c58 : x11_4 < (a0.size : Int)
                                      · rw [if_pos c58] at H
                                        have c58b0 : decide (x11_4 < (a0.size : Int)) = true := decide_eq_true c58
                                        clear c58
                                        obtain rfl := Option.some.inj H
                                        go_wp2
                                        go_ret
                                        exact ⟨by first | rfl | (simp; done) | (simp [*]; done), by repeat (first | exact Drawn0.refl _ | apply Drawn0.step)⟩
                                      · rw [if_neg c58] at H
                                        have c58b0 : decide (x11_4 < (a0.size : Int)) = false := decide_eq_false c58
                                        clear c58
                                        obtain rfl := Option.some.inj H
                                        go_wp2
                                        go_ret
                                        exact ⟨by first | rfl | (simp; done) | (simp [*]; done), by repeat (first | exact Drawn0.refl _ | apply Drawn0.step)⟩
                                    · rw [if_neg c57] at H
                                      have c57b0 : decide (1 < x11_4) = false := decide_eq_false c57
                                      clear c57
                                      obtain rfl := Option.some.inj H
                                      go_wp2
                                      go_ret
                                      exact ⟨by first | rfl | (simp; done) | (simp [*]; done), by repeat (first | exact Drawn0.refl _ | apply Drawn0.step)⟩
                        · rw [if_neg c47] at H
                          have c47b0 : ((bt a0 0) == 40) = false := beq_eq_false_iff_ne.mpr c47
                          have c47b1 : ((bt a0 0) != 40) = true := bne_iff_ne.mpr c47
                          obtain rfl := Option.some.inj H
                          have p41 : 0 ≤ (0 : Int) := (by omega)
                          have q41 : 0 < a0.size := (by have : (0 : Int) < (a0.size : Int) := of_decide_eq_true (by first | (with_reducible assumption) | assumption); omega)
                          have hx41 : ∀ h : 0 < a0.size, ((a0[0]'h).toNat : Int) = bt a0 0 := bt_at a0 0
                          clear p41
                          have qi41 : (0 < (a0.size : Int)) = True := eq_true (of_decide_eq_true (by first | (with_reducible assumption) | assumption))
                          replace q41 := eq_true q41
                          have p46 : 0 ≤ (0 : Int) := (by omega)
                          have q46 : 0 < a0.size := (by have : (0 : Int) < (a0.size : Int) := of_decide_eq_true (by first | (with_reducible assumption) | assumption); omega)
                          have hx46 : ∀ h : 0 < a0.size, ((a0[0]'h).toNat : Int) = bt a0 0 := bt_at a0 0
                          clear p46
                          have qi46 : (0 < (a0.size : Int)) = True := eq_true (of_decide_eq_true (by first | (with_reducible assumption) | assumption))
                          replace q46 := eq_true q46
                          go_wp2
                          go_ret
                          exact ⟨by first | rfl | (simp; done) | (simp [*]; done), by repeat (first | exact Drawn0.refl _ | apply Drawn0.step)⟩
                    · rw [if_neg c40] at H
                      exact absurd H (by simp)
end Go.Proofs.YtnojjfklnihmnaaDoor.PFnSgOfParts

-- Written by a program of this session (wip/tools/myprint.py) for this claim.
import Derived.Test.YthkblpbabcibcaaDoorPThx0
import Derived.Test.YthkblpbabcibcaaDoorPThx2
namespace Go.Proofs.YthkblpbabcibcaaDoor.PTh
open Go.RowKit Go.Proofs.YthkblpbabcibcaaDoorW.PrintWords Go.Proofs.YthkblpbabcibcaaDoorW.PrintLast Go.Proofs.YthkblpbabcibcaaDoorW.PrintMore
attribute [local go_sem] max2_int min2_int max_two min_two max_three min_three max_four min_four   -- for this text's walks alone
set_option linter.unusedVariables false
set_option linter.unusedSimpArgs false

/-! ### dbus_alignment: function 11 -/
mutual
def dbus_alignment.j0 : Nat → ByteArray → Int → Bool → Option (Int)
  | 0, _, _, _ => none
  | k + 1, x0, x13, x16 => if x16 = true then (some 2) else (if x13 = 6 then (dbus_alignment.j1 k x0 x13 (x13 == 6)) else (if x13 = 2 then (dbus_alignment.j1 k x0 x13 (x13 == 2)) else (if x13 = 9 then (dbus_alignment.j1 k x0 x13 (x13 == 9)) else (if x13 = 4 then (dbus_alignment.j1 k x0 x13 (x13 == 4)) else (if x13 = 17 then (dbus_alignment.j1 k x0 x13 (x13 == 17)) else (if x13 = 12 then (dbus_alignment.j1 k x0 x13 (x13 == 12)) else (if x13 = 16 then (dbus_alignment.j1 k x0 x13 (x13 == 16)) else (dbus_alignment.j1 k x0 x13 (x13 == 14)))))))))
def dbus_alignment.j1 : Nat → ByteArray → Int → Bool → Option (Int)
  | 0, _, _, _ => none
  | k + 1, x0, x13, x19 => if x19 = true then (some 4) else (if x13 = 10 then (dbus_alignment.j2 k x0 x13 (x13 == 10)) else (if x13 = 5 then (dbus_alignment.j2 k x0 x13 (x13 == 5)) else (if x13 = 11 then (dbus_alignment.j2 k x0 x13 (x13 == 11)) else (dbus_alignment.j2 k x0 x13 (x13 == 18)))))
def dbus_alignment.j2 : Nat → ByteArray → Int → Bool → Option (Int)
  | 0, _, _, _ => none
  | k + 1, x0, x13, x28 => if x28 = true then (some 8) else (if x13 = 15 then ((dbus_zzType_Elem.f k x0).bind fun t104 => ((dbus_alignment.f k t104).bind fun t105 => (some t105))) else (some 1))
def dbus_alignment.f : Nat → ByteArray → Option (Int)
  | 0, _ => none
  | k + 1, a0 => if a0.toList = ([118] : List UInt8) then (some 1) else (if a0.toList = ([111] : List UInt8) then (some 4) else (if a0.toList = ([103] : List UInt8) then (some 1) else (if a0.toList = ([91, 42] : List UInt8) then (some 4) else ((dbus_zzType_Kind.f k a0).bind fun t103 => (if t103 = 7 then (some 1) else (if t103 = 8 then (dbus_alignment.j0 k a0 t103 (t103 == 8)) else (dbus_alignment.j0 k a0 t103 (t103 == 3))))))))
end
theorem dbus_alignment.mono_l : ∀ k, (∀ y0, LeO (dbus_alignment.f k y0) (dbus_alignment.f (k + 1) y0)) ∧ (∀ y0 y1 y2, LeO (dbus_alignment.j0 k y0 y1 y2) (dbus_alignment.j0 (k + 1) y0 y1 y2)) ∧ (∀ y0 y1 y2, LeO (dbus_alignment.j1 k y0 y1 y2) (dbus_alignment.j1 (k + 1) y0 y1 y2)) ∧ (∀ y0 y1 y2, LeO (dbus_alignment.j2 k y0 y1 y2) (dbus_alignment.j2 (k + 1) y0 y1 y2))
  | 0 => ⟨fun _ r h => by simp [dbus_alignment.f] at h, fun _ _ _ r h => by simp [dbus_alignment.j0] at h, fun _ _ _ r h => by simp [dbus_alignment.j1] at h, fun _ _ _ r h => by simp [dbus_alignment.j2] at h⟩
  | k + 1 => by
    obtain ⟨ih0, ih1, ih2, ih3⟩ := dbus_alignment.mono_l k
    refine ⟨?_, ?_, ?_, ?_⟩
    · intro y0
      unfold dbus_alignment.f
      repeat' first
      | (with_reducible exact ih0 _)
      | (with_reducible exact ih1 _ _ _)
      | (with_reducible exact ih2 _ _ _)
      | (with_reducible exact ih3 _ _ _)
      | (with_reducible exact dbus_zzType_Elem.mono _ _)
      | (with_reducible exact dbus_zzType_Kind.mono _ _)
      | (with_reducible exact LeO.refl _)
      | (with_reducible exact LeO.none _)
      | (with_reducible refine LeO.ite ?_ ?_)
      | (with_reducible refine LeO.bind ?_ (fun _ => ?_))
      | exact ih0 _
      | exact ih1 _ _ _
      | exact ih2 _ _ _
      | exact ih3 _ _ _
      | exact dbus_zzType_Elem.mono _ _
      | exact dbus_zzType_Kind.mono _ _
      | exact LeO.none _
      | refine LeO.ite ?_ ?_
      | refine LeO.bind ?_ (fun _ => ?_)
    · intro y0 y1 y2
      unfold dbus_alignment.j0
      repeat' first
      | (with_reducible exact ih0 _)
      | (with_reducible exact ih1 _ _ _)
      | (with_reducible exact ih2 _ _ _)
      | (with_reducible exact ih3 _ _ _)
      | (with_reducible exact dbus_zzType_Elem.mono _ _)
      | (with_reducible exact dbus_zzType_Kind.mono _ _)
      | (with_reducible exact LeO.refl _)
      | (with_reducible exact LeO.none _)
      | (with_reducible refine LeO.ite ?_ ?_)
      | (with_reducible refine LeO.bind ?_ (fun _ => ?_))
      | exact ih0 _
      | exact ih1 _ _ _
      | exact ih2 _ _ _
      | exact ih3 _ _ _
      | exact dbus_zzType_Elem.mono _ _
      | exact dbus_zzType_Kind.mono _ _
      | exact LeO.none _
      | refine LeO.ite ?_ ?_
      | refine LeO.bind ?_ (fun _ => ?_)
    · intro y0 y1 y2
      unfold dbus_alignment.j1
      repeat' first
      | (with_reducible exact ih0 _)
      | (with_reducible exact ih1 _ _ _)
      | (with_reducible exact ih2 _ _ _)
      | (with_reducible exact ih3 _ _ _)
      | (with_reducible exact dbus_zzType_Elem.mono _ _)
      | (with_reducible exact dbus_zzType_Kind.mono _ _)
      | (with_reducible exact LeO.refl _)
      | (with_reducible exact LeO.none _)
      | (with_reducible refine LeO.ite ?_ ?_)
      | (with_reducible refine LeO.bind ?_ (fun _ => ?_))
      | exact ih0 _
      | exact ih1 _ _ _
      | exact ih2 _ _ _
      | exact ih3 _ _ _
      | exact dbus_zzType_Elem.mono _ _
      | exact dbus_zzType_Kind.mono _ _
      | exact LeO.none _
      | refine LeO.ite ?_ ?_
      | refine LeO.bind ?_ (fun _ => ?_)
    · intro y0 y1 y2
      unfold dbus_alignment.j2
      repeat' first
      | (with_reducible exact ih0 _)
      | (with_reducible exact ih1 _ _ _)
      | (with_reducible exact ih2 _ _ _)
      | (with_reducible exact ih3 _ _ _)
      | (with_reducible exact dbus_zzType_Elem.mono _ _)
      | (with_reducible exact dbus_zzType_Kind.mono _ _)
      | (with_reducible exact LeO.refl _)
      | (with_reducible exact LeO.none _)
      | (with_reducible refine LeO.ite ?_ ?_)
      | (with_reducible refine LeO.bind ?_ (fun _ => ?_))
      | exact ih0 _
      | exact ih1 _ _ _
      | exact ih2 _ _ _
      | exact ih3 _ _ _
      | exact dbus_zzType_Elem.mono _ _
      | exact dbus_zzType_Kind.mono _ _
      | exact LeO.none _
      | refine LeO.ite ?_ ?_
      | refine LeO.bind ?_ (fun _ => ?_)
theorem dbus_alignment.mono : ∀ a0 k, LeO (dbus_alignment.f k a0) (dbus_alignment.f (k + 1) a0) := by
  intro a0 k
  obtain ⟨ih0, ih1, ih2, ih3⟩ := dbus_alignment.mono_l k
  exact ih0 a0
set_option maxHeartbeats 8000000 in
set_option maxRecDepth 100000 in
theorem dbus_alignment.calls (k : Nat) : ∀ (a0 : ByteArray) (r : Int) (w : World) (h : dbus_alignment.f k a0 = some r),
    Calls Tryd.prog 11 #[.string a0] w fun e w' => e = .returned (.int .i64 r) ∧ Drawn0 w w' := by
  induction k using Nat.strongRecOn with
  | _ k ih =>
  intro a0 r w h
  cases k with
  | zero => exact absurd h (by simp [dbus_alignment.f])
  | succ k =>
  simp only [dbus_alignment.f] at h
  have H : (if a0.toList = ([118] : List UInt8) then (some 1) else (if a0.toList = ([111] : List UInt8) then (some 4) else (if a0.toList = ([103] : List UInt8) then (some 1) else (if a0.toList = ([91, 42] : List UInt8) then (some 4) else ((dbus_zzType_Kind.f k a0).bind fun t103 => (if t103 = 7 then (some 1) else (if t103 = 8 then (dbus_alignment.j0 k a0 t103 (t103 == 8)) else (dbus_alignment.j0 k a0 t103 (t103 == 3))))))))) = some r := h
  clear h
  by_cases c2 : a0.toList = ([118] : List UInt8)
  · rw [if_pos c2] at H
    have c2b0 : (a0.toList == ([118] : List UInt8)) = true := beq_iff_eq.mpr c2
    have c2b1 : (a0.toList != ([118] : List UInt8)) = false := bne_eq_false_iff_eq.mpr c2
    clear c2
    obtain rfl := Option.some.inj H
    go_enter Tryd.func11, Tryd.ntmps11
    go_wp2
    go_ret
    exact ⟨by first | rfl | (simp; done) | (simp [*]; done), by repeat (first | exact Drawn0.refl _ | apply Drawn0.step)⟩
  · rw [if_neg c2] at H
    have c2b0 : (a0.toList == ([118] : List UInt8)) = false := beq_eq_false_iff_ne.mpr c2
    have c2b1 : (a0.toList != ([118] : List UInt8)) = true := bne_iff_ne.mpr c2
    by_cases c3 : a0.toList = ([111] : List UInt8)
    · rw [if_pos c3] at H
      have c3b0 : (a0.toList == ([111] : List UInt8)) = true := beq_iff_eq.mpr c3
      have c3b1 : (a0.toList != ([111] : List UInt8)) = false := bne_eq_false_iff_eq.mpr c3
      clear c3
      obtain rfl := Option.some.inj H
      go_enter Tryd.func11, Tryd.ntmps11
      go_wp2
      go_ret
      exact ⟨by first | rfl | (simp; done) | (simp [*]; done), by repeat (first | exact Drawn0.refl _ | apply Drawn0.step)⟩
    · rw [if_neg c3] at H
      have c3b0 : (a0.toList == ([111] : List UInt8)) = false := beq_eq_false_iff_ne.mpr c3
      have c3b1 : (a0.toList != ([111] : List UInt8)) = true := bne_iff_ne.mpr c3
      by_cases c4 : a0.toList = ([103] : List UInt8)
      · rw [if_pos c4] at H
        have c4b0 : (a0.toList == ([103] : List UInt8)) = true := beq_iff_eq.mpr c4
        have c4b1 : (a0.toList != ([103] : List UInt8)) = false := bne_eq_false_iff_eq.mpr c4
        clear c4
        obtain rfl := Option.some.inj H
        go_enter Tryd.func11, Tryd.ntmps11
        go_wp2
        go_ret
        exact ⟨by first | rfl | (simp; done) | (simp [*]; done), by repeat (first | exact Drawn0.refl _ | apply Drawn0.step)⟩
      · rw [if_neg c4] at H
        have c4b0 : (a0.toList == ([103] : List UInt8)) = false := beq_eq_false_iff_ne.mpr c4
        have c4b1 : (a0.toList != ([103] : List UInt8)) = true := bne_iff_ne.mpr c4
        by_cases c5 : a0.toList = ([91, 42] : List UInt8)
        · rw [if_pos c5] at H
          have c5b0 : (a0.toList == ([91, 42] : List UInt8)) = true := beq_iff_eq.mpr c5
          have c5b1 : (a0.toList != ([91, 42] : List UInt8)) = false := bne_eq_false_iff_eq.mpr c5
          clear c5
          obtain rfl := Option.some.inj H
          go_enter Tryd.func11, Tryd.ntmps11
          go_wp2
          go_ret
          exact ⟨by first | rfl | (simp; done) | (simp [*]; done), by repeat (first | exact Drawn0.refl _ | apply Drawn0.step)⟩
        · rw [if_neg c5] at H
          have c5b0 : (a0.toList == ([91, 42] : List UInt8)) = false := beq_eq_false_iff_ne.mpr c5
          have c5b1 : (a0.toList != ([91, 42] : List UInt8)) = true := bne_iff_ne.mpr c5
          replace H := Option.bind_eq_some_iff.mp H
          obtain ⟨t103, A60, H⟩ := H
          replace H : (if t103 = 7 then (some 1) else (if t103 = 8 then (dbus_alignment.j0 k a0 t103 (t103 == 8)) else (dbus_alignment.j0 k a0 t103 (t103 == 3)))) = some r := H
          have A6 := Aside0.mk A60
          clear A60
          by_cases c7 : t103 = 7
          · rw [if_pos c7] at H
            have c7b0 : (t103 == 7) = true := beq_iff_eq.mpr c7
            have c7b1 : (t103 != 7) = false := bne_eq_false_iff_eq.mpr c7
            clear c7
            obtain rfl := Option.some.inj H
            go_enter Tryd.func11, Tryd.ntmps11
            go_wp2_with (first | ((with_reducible refine gate_callee (f := 14) rfl ?_); refine goesL_ (some 13) rfl rfl Tryd.func14 (by kernel_rfl) rfl #[.string a0] rfl (by (try simp only [List.map_toArray, List.map_cons, List.map_nil]); first | done | rfl | (simp only [List.length_drop, List.length_take]; rfl)) ?_; (with_reducible refine (dbus_zzType_Kind.calls k a0 t103 _ A6.out).mono ?_); rintro e w' ⟨rfl, ⟨nd, rfl⟩⟩; refine ⟨_, rfl, ?_⟩))
            go_ret
            exact ⟨by first | rfl | (simp; done) | (simp [*]; done), by repeat (first | exact Drawn0.refl _ | apply Drawn0.step)⟩
          · rw [if_neg c7] at H
            have c7b0 : (t103 == 7) = false := beq_eq_false_iff_ne.mpr c7
            have c7b1 : (t103 != 7) = true := bne_iff_ne.mpr c7
            have HC8 := Aside0.mk H
            clear H
            go_enter Tryd.func11, Tryd.ntmps11
            go_upto_if 16 with (first | ((with_reducible refine gate_callee (f := 14) rfl ?_); refine goesL_ (some 13) rfl rfl Tryd.func14 (by kernel_rfl) rfl #[.string a0] rfl (by (try simp only [List.map_toArray, List.map_cons, List.map_nil]); first | done | rfl | (simp only [List.length_drop, List.length_take]; rfl)) ?_; (with_reducible refine (dbus_zzType_Kind.calls k a0 t103 _ A6.out).mono ?_); rintro e w' ⟨rfl, ⟨nd, rfl⟩⟩; refine ⟨_, rfl, ?_⟩))
            (try simp only [Act.put, List.setIfInBounds_toArray, List.set_cons_zero, List.set_cons_succ])
            go_cut [16] (fun v16 wc => ∃ (kq : Nat) (x16_7 : Bool), v16 = .bool x16_7 ∧ Aside0 (dbus_alignment.j0 kq a0 t103 x16_7 = some r) ∧ Aside0 (kq ≤ k) ∧ Drawn0 w wc)
            case first =>
              have H := HC8.out
              clear HC8
              by_cases c9 : t103 = 8
              · rw [if_pos c9] at H
                have c9b0 : (t103 == 8) = true := beq_iff_eq.mpr c9
                have c9b1 : (t103 != 8) = false := bne_eq_false_iff_eq.mpr c9
                clear c9
                (first | rw [c9b0] | (simp only [i64_w, i32_w]; rw [c9b0]) | skip)
                have H' := Aside0.mk H
                clear H
                go_wp2
                go_meet
                case rel => exact ⟨_, ((t103 == 8)), (by first | rfl | (simp; done) | (simp [*]; done)), H', ⟨by first | omega | exact Nat.le_refl _⟩, by repeat (first | exact Drawn0.refl _ | apply Drawn0.step)⟩
              · rw [if_neg c9] at H
                have c9b0 : (t103 == 8) = false := beq_eq_false_iff_ne.mpr c9
                have c9b1 : (t103 != 8) = true := bne_iff_ne.mpr c9
                (first | rw [c9b0] | (simp only [i64_w, i32_w]; rw [c9b0]) | skip)
                have H' := Aside0.mk H
                clear H
                go_wp2
                go_meet
                case rel => exact ⟨_, ((t103 == 3)), (by first | rfl | (simp; done) | (simp [*]; done)), H', ⟨by first | omega | exact Nat.le_refl _⟩, by repeat (first | exact Drawn0.refl _ | apply Drawn0.step)⟩
            case rest =>
              clear HC8
              try clear c1
              try clear c2
              try clear c2b0
              try clear c2b1
              try clear p2
              try clear c3
              try clear c3b0
              try clear c3b1
              try clear c4
              try clear c4b0
              try clear c4b1
              try clear c5
              try clear c5b0
              try clear c5b1
              try clear c7
              try clear c7b0
              try clear c7b1
              try clear c9
              try clear c9b0
              try clear c9b1
              obtain ⟨kq, x16_7, rfl, HA, HJ7, ⟨mc7, rfl⟩⟩ := hcut
              cases kq with
              | zero => exact absurd HA.out (by simp [dbus_alignment.j0])
              | succ kj7 =>
                have H := HA.out
                clear HA
                simp only [dbus_alignment.j0] at H
                by_cases c10 : x16_7 = true
                · subst c10
                  have H1 : (some 2) = some r := by rw [if_pos rfl] at H; exact H
                  clear H
                  have H := H1
                  clear H1
                  obtain rfl := Option.some.inj H
                  go_wp2
                  go_ret
                  exact ⟨by first | rfl | (simp; done) | (simp [*]; done), by repeat (first | exact Drawn0.refl _ | apply Drawn0.step)⟩
                · replace c10 := Bool.eq_false_iff.mpr c10
                  subst c10
                  have H1 : (if t103 = 6 then (dbus_alignment.j1 kj7 a0 t103 (t103 == 6)) else (if t103 = 2 then (dbus_alignment.j1 kj7 a0 t103 (t103 == 2)) else (if t103 = 9 then (dbus_alignment.j1 kj7 a0 t103 (t103 == 9)) else (if t103 = 4 then (dbus_alignment.j1 kj7 a0 t103 (t103 == 4)) else (if t103 = 17 then (dbus_alignment.j1 kj7 a0 t103 (t103 == 17)) else (if t103 = 12 then (dbus_alignment.j1 kj7 a0 t103 (t103 == 12)) else (if t103 = 16 then (dbus_alignment.j1 kj7 a0 t103 (t103 == 16)) else (dbus_alignment.j1 kj7 a0 t103 (t103 == 14))))))))) = some r := by rw [if_neg (show ¬ (false = true) by decide)] at H; exact H
                  clear H
                  have H := H1
                  clear H1
                  have HC11 := Aside0.mk H
                  clear H
                  go_upto_if 19 with (fail)
                  go_cut [19] (fun v19 wc => ∃ (kq : Nat) (x19_10 : Bool), v19 = .bool x19_10 ∧ Aside0 (dbus_alignment.j1 kq a0 t103 x19_10 = some r) ∧ Aside0 (kq ≤ kj7) ∧ Drawn0 w wc)
                  case first =>
                    have H := HC11.out
                    clear HC11
                    by_cases c12 : t103 = 6
                    · rw [if_pos c12] at H
                      have c12b0 : (t103 == 6) = true := beq_iff_eq.mpr c12
                      have c12b1 : (t103 != 6) = false := bne_eq_false_iff_eq.mpr c12
                      clear c12
                      (first | rw [c12b0] | (simp only [i64_w, i32_w]; rw [c12b0]) | skip)
                      have H' := Aside0.mk H
                      clear H
                      go_wp2
                      go_meet
                      case rel => exact ⟨_, ((t103 == 6)), (by first | rfl | (simp; done) | (simp [*]; done)), H', ⟨by have := HJ7.out; first | omega | exact Nat.le_refl _⟩, by repeat (first | exact Drawn0.refl _ | apply Drawn0.step)⟩
                    · rw [if_neg c12] at H
                      have c12b0 : (t103 == 6) = false := beq_eq_false_iff_ne.mpr c12
                      have c12b1 : (t103 != 6) = true := bne_iff_ne.mpr c12
                      (first | rw [c12b0] | (simp only [i64_w, i32_w]; rw [c12b0]) | skip)
                      by_cases c13 : t103 = 2
                      · rw [if_pos c13] at H
                        have c13b0 : (t103 == 2) = true := beq_iff_eq.mpr c13
                        have c13b1 : (t103 != 2) = false := bne_eq_false_iff_eq.mpr c13
                        clear c13
                        have H' := Aside0.mk H
                        clear H
                        go_wp2
                        go_meet
                        case rel => exact ⟨_, ((t103 == 2)), (by first | rfl | (simp; done) | (simp [*]; done)), H', ⟨by have := HJ7.out; first | omega | exact Nat.le_refl _⟩, by repeat (first | exact Drawn0.refl _ | apply Drawn0.step)⟩
                      · rw [if_neg c13] at H
                        have c13b0 : (t103 == 2) = false := beq_eq_false_iff_ne.mpr c13
                        have c13b1 : (t103 != 2) = true := bne_iff_ne.mpr c13
                        by_cases c14 : t103 = 9
                        · rw [if_pos c14] at H
                          have c14b0 : (t103 == 9) = true := beq_iff_eq.mpr c14
                          have c14b1 : (t103 != 9) = false := bne_eq_false_iff_eq.mpr c14
                          clear c14
                          have H' := Aside0.mk H
                          clear H
                          go_wp2
                          go_meet
                          case rel => exact ⟨_, ((t103 == 9)), (by first | rfl | (simp; done) | (simp [*]; done)), H', ⟨by have := HJ7.out; first | omega | exact Nat.le_refl _⟩, by repeat (first | exact Drawn0.refl _ | apply Drawn0.step)⟩
                        · rw [if_neg c14] at H
                          have c14b0 : (t103 == 9) = false := beq_eq_false_iff_ne.mpr c14
                          have c14b1 : (t103 != 9) = true := bne_iff_ne.mpr c14
                          by_cases c15 : t103 = 4
                          · rw [if_pos c15] at H
                            have c15b0 : (t103 == 4) = true := beq_iff_eq.mpr c15
                            have c15b1 : (t103 != 4) = false := bne_eq_false_iff_eq.mpr c15
                            clear c15
                            have H' := Aside0.mk H
                            clear H
                            go_wp2
                            go_meet
                            case rel => exact ⟨_, ((t103 == 4)), (by first | rfl | (simp; done) | (simp [*]; done)), H', ⟨by have := HJ7.out; first | omega | exact Nat.le_refl _⟩, by repeat (first | exact Drawn0.refl _ | apply Drawn0.step)⟩
                          · rw [if_neg c15] at H
                            have c15b0 : (t103 == 4) = false := beq_eq_false_iff_ne.mpr c15
                            have c15b1 : (t103 != 4) = true := bne_iff_ne.mpr c15
                            by_cases c16 : t103 = 17
                            · rw [if_pos c16] at H
                              have c16b0 : (t103 == 17) = true := beq_iff_eq.mpr c16
                              have c16b1 : (t103 != 17) = false := bne_eq_false_iff_eq.mpr c16
                              clear c16
                              have H' := Aside0.mk H
                              clear H
                              go_wp2
                              go_meet
                              case rel => exact ⟨_, ((t103 == 17)), (by first | rfl | (simp; done) | (simp [*]; done)), H', ⟨by have := HJ7.out; first | omega | exact Nat.le_refl _⟩, by repeat (first | exact Drawn0.refl _ | apply Drawn0.step)⟩
                            · rw [if_neg c16] at H
                              have c16b0 : (t103 == 17) = false := beq_eq_false_iff_ne.mpr c16
                              have c16b1 : (t103 != 17) = true := bne_iff_ne.mpr c16
                              by_cases c17 : t103 = 12
                              · rw [if_pos c17] at H
                                have c17b0 : (t103 == 12) = true := beq_iff_eq.mpr c17
                                have c17b1 : (t103 != 12) = false := bne_eq_false_iff_eq.mpr c17
                                clear c17
                                have H' := Aside0.mk H
                                clear H
                                go_wp2
                                go_meet
                                case rel => exact ⟨_, ((t103 == 12)), (by first | rfl | (simp; done) | (simp [*]; done)), H', ⟨by have := HJ7.out; first | omega | exact Nat.le_refl _⟩, by repeat (first | exact Drawn0.refl _ | apply Drawn0.step)⟩
                              · rw [if_neg c17] at H
                                have c17b0 : (t103 == 12) = false := beq_eq_false_iff_ne.mpr c17
                                have c17b1 : (t103 != 12) = true := bne_iff_ne.mpr c17
                                by_cases c18 : t103 = 16
                                · rw [if_pos c18] at H
                                  have c18b0 : (t103 == 16) = true := beq_iff_eq.mpr c18
                                  have c18b1 : (t103 != 16) = false := bne_eq_false_iff_eq.mpr c18
                                  clear c18
                                  have H' := Aside0.mk H
                                  clear H
                                  go_wp2
                                  go_meet
                                  case rel => exact ⟨_, ((t103 == 16)), (by first | rfl | (simp; done) | (simp [*]; done)), H', ⟨by have := HJ7.out; first | omega | exact Nat.le_refl _⟩, by repeat (first | exact Drawn0.refl _ | apply Drawn0.step)⟩
                                · rw [if_neg c18] at H
                                  have c18b0 : (t103 == 16) = false := beq_eq_false_iff_ne.mpr c18
                                  have c18b1 : (t103 != 16) = true := bne_iff_ne.mpr c18
                                  have H' := Aside0.mk H
                                  clear H
                                  go_wp2
                                  go_meet
                                  case rel => exact ⟨_, ((t103 == 14)), (by first | rfl | (simp; done) | (simp [*]; done)), H', ⟨by have := HJ7.out; first | omega | exact Nat.le_refl _⟩, by repeat (first | exact Drawn0.refl _ | apply Drawn0.step)⟩
                  case rest =>
                    clear HC11
                    try clear c1
                    try clear c2
                    try clear c2b0
                    try clear c2b1
                    try clear p2
                    try clear c3
                    try clear c3b0
                    try clear c3b1
                    try clear c4
                    try clear c4b0
                    try clear c4b1
                    try clear c5
                    try clear c5b0
                    try clear c5b1
                    try clear c7
                    try clear c7b0
                    try clear c7b1
                    try clear c9
                    try clear c9b0
                    try clear c9b1
                    try clear c10
                    try clear c11
                    try clear c12
                    try clear c12b0
                    try clear c12b1
                    try clear c13
                    try clear c13b0
                    try clear c13b1
                    try clear c14
                    try clear c14b0
                    try clear c14b1
                    try clear c15
                    try clear c15b0
                    try clear c15b1
                    try clear c16
                    try clear c16b0
                    try clear c16b1
                    try clear c17
                    try clear c17b0
                    try clear c17b1
                    try clear c18
                    try clear c18b0
                    try clear c18b1
                    try clear p2
                    obtain ⟨kq, x19_10, rfl, HA, HJ10, ⟨mc10, rfl⟩⟩ := hcut
                    cases kq with
                    | zero => exact absurd HA.out (by simp [dbus_alignment.j1])
                    | succ kj10 =>
                      have H := HA.out
                      clear HA
                      simp only [dbus_alignment.j1] at H
                      by_cases c19 : x19_10 = true
                      · subst c19
                        have H1 : (some 4) = some r := by rw [if_pos rfl] at H; exact H
                        clear H
                        have H := H1
                        clear H1
                        obtain rfl := Option.some.inj H
                        go_wp2
                        go_ret
                        exact ⟨by first | rfl | (simp; done) | (simp [*]; done), by repeat (first | exact Drawn0.refl _ | apply Drawn0.step)⟩
                      · replace c19 := Bool.eq_false_iff.mpr c19
                        subst c19
                        have H1 : (if t103 = 10 then (dbus_alignment.j2 kj10 a0 t103 (t103 == 10)) else (if t103 = 5 then (dbus_alignment.j2 kj10 a0 t103 (t103 == 5)) else (if t103 = 11 then (dbus_alignment.j2 kj10 a0 t103 (t103 == 11)) else (dbus_alignment.j2 kj10 a0 t103 (t103 == 18))))) = some r := by rw [if_neg (show ¬ (false = true) by decide)] at H; exact H
                        clear H
                        have H := H1
                        clear H1
                        have HC20 := Aside0.mk H
                        clear H
                        go_upto_if 28 with (fail)
                        go_cut [28] (fun v28 wc => ∃ (kq : Nat) (x28_19 : Bool), v28 = .bool x28_19 ∧ Aside0 (dbus_alignment.j2 kq a0 t103 x28_19 = some r) ∧ Aside0 (kq ≤ kj10) ∧ Drawn0 w wc)
                        case first =>
                          have H := HC20.out
                          clear HC20
                          by_cases c21 : t103 = 10
                          · rw [if_pos c21] at H
                            have c21b0 : (t103 == 10) = true := beq_iff_eq.mpr c21
                            have c21b1 : (t103 != 10) = false := bne_eq_false_iff_eq.mpr c21
                            clear c21
                            (first | rw [c21b0] | (simp only [i64_w, i32_w]; rw [c21b0]) | skip)
                            have H' := Aside0.mk H
                            clear H
                            go_wp2
                            go_meet
                            case rel => exact ⟨_, ((t103 == 10)), (by first | rfl | (simp; done) | (simp [*]; done)), H', ⟨by have := HJ7.out; have := HJ10.out; first | omega | exact Nat.le_refl _⟩, by repeat (first | exact Drawn0.refl _ | apply Drawn0.step)⟩
                          · rw [if_neg c21] at H
                            have c21b0 : (t103 == 10) = false := beq_eq_false_iff_ne.mpr c21
                            have c21b1 : (t103 != 10) = true := bne_iff_ne.mpr c21
                            (first | rw [c21b0] | (simp only [i64_w, i32_w]; rw [c21b0]) | skip)
                            by_cases c22 : t103 = 5
                            · rw [if_pos c22] at H
                              have c22b0 : (t103 == 5) = true := beq_iff_eq.mpr c22
                              have c22b1 : (t103 != 5) = false := bne_eq_false_iff_eq.mpr c22
                              clear c22
                              have H' := Aside0.mk H
                              clear H
                              go_wp2
                              go_meet
                              case rel => exact ⟨_, ((t103 == 5)), (by first | rfl | (simp; done) | (simp [*]; done)), H', ⟨by have := HJ7.out; have := HJ10.out; first | omega | exact Nat.le_refl _⟩, by repeat (first | exact Drawn0.refl _ | apply Drawn0.step)⟩
                            · rw [if_neg c22] at H
                              have c22b0 : (t103 == 5) = false := beq_eq_false_iff_ne.mpr c22
                              have c22b1 : (t103 != 5) = true := bne_iff_ne.mpr c22
                              by_cases c23 : t103 = 11
                              · rw [if_pos c23] at H
                                have c23b0 : (t103 == 11) = true := beq_iff_eq.mpr c23
                                have c23b1 : (t103 != 11) = false := bne_eq_false_iff_eq.mpr c23
                                clear c23
                                have H' := Aside0.mk H
                                clear H
                                go_wp2
                                go_meet
                                case rel => exact ⟨_, ((t103 == 11)), (by first | rfl | (simp; done) | (simp [*]; done)), H', ⟨by have := HJ7.out; have := HJ10.out; first | omega | exact Nat.le_refl _⟩, by repeat (first | exact Drawn0.refl _ | apply Drawn0.step)⟩
                              · rw [if_neg c23] at H
                                have c23b0 : (t103 == 11) = false := beq_eq_false_iff_ne.mpr c23
                                have c23b1 : (t103 != 11) = true := bne_iff_ne.mpr c23
                                have H' := Aside0.mk H
                                clear H
                                go_wp2
                                go_meet
                                case rel => exact ⟨_, ((t103 == 18)), (by first | rfl | (simp; done) | (simp [*]; done)), H', ⟨by have := HJ7.out; have := HJ10.out; first | omega | exact Nat.le_refl _⟩, by repeat (first | exact Drawn0.refl _ | apply Drawn0.step)⟩
                        case rest =>
                          clear HC20
                          try clear c1
                          try clear c2
                          try clear c2b0
                          try clear c2b1
                          try clear p2
                          try clear c3
                          try clear c3b0
                          try clear c3b1
                          try clear c4
                          try clear c4b0
                          try clear c4b1
                          try clear c5
                          try clear c5b0
                          try clear c5b1
                          try clear c7
                          try clear c7b0
                          try clear c7b1
                          try clear c9
                          try clear c9b0
                          try clear c9b1
                          try clear c10
                          try clear c11
                          try clear c12
                          try clear c12b0
                          try clear c12b1
                          try clear c13
                          try clear c13b0
                          try clear c13b1
                          try clear c14
                          try clear c14b0
                          try clear c14b1
                          try clear c15
                          try clear c15b0
                          try clear c15b1
                          try clear c16
                          try clear c16b0
                          try clear c16b1
                          try clear c17
                          try clear c17b0
                          try clear c17b1
                          try clear c18
                          try clear c18b0
                          try clear c18b1
                          try clear c19
                          try clear c21
                          try clear c21b0
                          try clear c21b1
                          try clear c22
                          try clear c22b0
                          try clear c22b1
                          try clear c23
                          try clear c23b0
                          try clear c23b1
                          try clear p2
                          obtain ⟨kq, x28_19, rfl, HA, HJ19, ⟨mc19, rfl⟩⟩ := hcut
                          cases kq with
                          | zero => exact absurd HA.out (by simp [dbus_alignment.j2])
                          | succ kj19 =>
                            have H := HA.out
                            clear HA
                            simp only [dbus_alignment.j2] at H
                            by_cases c24 : x28_19 = true
                            · subst c24
                              have H1 : (some 8) = some r := by rw [if_pos rfl] at H; exact H
                              clear H
                              have H := H1
                              clear H1
                              obtain rfl := Option.some.inj H
                              go_wp2
                              go_ret
                              exact ⟨by first | rfl | (simp; done) | (simp [*]; done), by repeat (first | exact Drawn0.refl _ | apply Drawn0.step)⟩
                            · replace c24 := Bool.eq_false_iff.mpr c24
                              subst c24
                              have H1 : (if t103 = 15 then ((dbus_zzType_Elem.f kj19 a0).bind fun t104 => ((dbus_alignment.f kj19 t104).bind fun t105 => (some t105))) else (some 1)) = some r := by rw [if_neg (show ¬ (false = true) by decide)] at H; exact H
                              clear H
                              have H := H1
                              clear H1
                              by_cases c25 : t103 = 15
                              · rw [if_pos c25] at H
                                have c25b0 : (t103 == 15) = true := beq_iff_eq.mpr c25
                                have c25b1 : (t103 != 15) = false := bne_eq_false_iff_eq.mpr c25
                                clear c25
                                replace H := Option.bind_eq_some_iff.mp H
                                obtain ⟨t104, A260, H⟩ := H
                                replace H : ((dbus_alignment.f kj19 t104).bind fun t105 => (some t105)) = some r := H
                                have A26 := Aside0.mk A260
                                clear A260
                                replace H := Option.bind_eq_some_iff.mp H
                                obtain ⟨t105, A270, H⟩ := H
                                replace H : (some t105) = some r := H
                                have A27 := Aside0.mk A270
                                clear A270
                                obtain rfl := Option.some.inj H
                                go_wp2_with (first | ((with_reducible refine gate_callee (f := 15) rfl ?_); refine goesL_ (some 36) rfl rfl Tryd.func15 (by kernel_rfl) rfl #[.string a0] rfl (by (try simp only [List.map_toArray, List.map_cons, List.map_nil]); first | done | rfl | (simp only [List.length_drop, List.length_take]; rfl)) ?_; (with_reducible refine (dbus_zzType_Elem.calls kj19 a0 t104 _ A26.out).mono ?_); rintro e w' ⟨rfl, ⟨nd, rfl⟩⟩; refine ⟨_, rfl, ?_⟩) | ((with_reducible refine gate_callee (f := 11) rfl ?_); refine goesL_ (some 37) rfl rfl Tryd.func11 (by kernel_rfl) rfl #[.string t104] rfl (by (try simp only [List.map_toArray, List.map_cons, List.map_nil]); first | done | rfl | (simp only [List.length_drop, List.length_take]; rfl)) ?_; (with_reducible refine (ih kj19 (by have := HJ7.out; have := HJ10.out; have := HJ19.out; omega) t104 t105 _ A27.out).mono ?_); rintro e w' ⟨rfl, ⟨nd, rfl⟩⟩; refine ⟨_, rfl, ?_⟩))
                                go_ret
                                exact ⟨by first | rfl | (simp; done) | (simp [*]; done), by repeat (first | exact Drawn0.refl _ | apply Drawn0.step)⟩
                              · rw [if_neg c25] at H
                                have c25b0 : (t103 == 15) = false := beq_eq_false_iff_ne.mpr c25
                                have c25b1 : (t103 != 15) = true := bne_iff_ne.mpr c25
                                obtain rfl := Option.some.inj H
                                go_wp2
                                go_ret
                                exact ⟨by first | rfl | (simp; done) | (simp [*]; done), by repeat (first | exact Drawn0.refl _ | apply Drawn0.step)⟩

end Go.Proofs.YthkblpbabcibcaaDoor.PTh

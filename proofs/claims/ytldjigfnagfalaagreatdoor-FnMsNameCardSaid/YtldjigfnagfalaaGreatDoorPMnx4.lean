/- Part of the proof of LawFnMsName. -/
import Derived.Test.YtldjigfnagfalaaGreatDoorPMnx0
import Derived.Test.YtldjigfnagfalaaGreatDoorPMnx1
import Derived.Test.YtldjigfnagfalaaGreatDoorPMnx2
import Derived.Test.YtldjigfnagfalaaGreatDoorPMnx3
set_option linter.unusedVariables false
set_option linter.unusedSimpArgs false
namespace Go.Proofs.YtldjigfnagfalaaGreatDoor.PMn
open Go.RowKit Go.Proofs.YtldjigfnagfalaaGreatDoorW.PrintWords Go.Proofs.YtldjigfnagfalaaGreatDoorW.PrintLast Go.Proofs.YtldjigfnagfalaaGreatDoorW.PrintMore
open Go.Proofs.YtldjigfnagfalaaGreatDoor.PMi (S27 z27 k27 k27_open k27_openM k27_mk k27_mkM rd_T27 at_T27 S43 z43 k43 k43_open k43_openM k43_mk k43_mkM rd_T43 at_T43 F27 mono27 sub27 sz27)
attribute [local go_sem] max2_int min2_int max_two min_two max_three min_three max_four min_four   -- for this text's walks alone
set_option linter.unusedVariables false
set_option linter.unusedSimpArgs false
noncomputable section
mutual
def laws_FnMsName.j0 : Nat → Int → ByteArray → ByteArray → Bool → Bool → Option (Bool)
  | 0, _, _, _, _, _ => none
  | k + 1, x0, x1, x2, x3, x23 => if x23 = true then (some true) else (if x0 < 1 then (laws_FnMsName.j1 k x0 x1 x2 x3 true) else (if x0 > 4 then (laws_FnMsName.j1 k x0 x1 x2 x3 true) else (if (x1.size : Int) = (x2.size : Int) then ((spec_ValidMember.f k x1).bind fun t162 => (if t162 = true then ((spec_ValidMember.f k x2).bind fun t163 => (laws_FnMsName.j1 k x0 x1 x2 x3 (!t163))) else (laws_FnMsName.j1 k x0 x1 x2 x3 true))) else (laws_FnMsName.j1 k x0 x1 x2 x3 true))))
def laws_FnMsName.j1 : Nat → Int → ByteArray → ByteArray → Bool → Bool → Option (Bool)
  | 0, _, _, _, _, _ => none
  | k + 1, x0, x1, x2, x3, x46 => if x46 = true then (some true) else ((laws_msBase.f k x0).bind fun bt164 => ((spec_WithField.f k bt164.1 bt164.2.1 bt164.2.2.1 bt164.2.2.2.1 bt164.2.2.2.2 3 115 0 x1 ([] : List (S27))).bind fun bt173 => ((laws_msBase.f k x0).bind fun bt183 => ((spec_WithField.f k bt183.1 bt183.2.1 bt183.2.2.1 bt183.2.2.2.1 bt183.2.2.2.2 3 115 0 x2 ([] : List (S27))).bind fun bt192 => ((Given.MsEncode.f bt173.1 bt173.2.1 bt173.2.2.1 bt173.2.2.2.1 bt173.2.2.2.2 x3).bind fun bt202 => ((Given.MsEncode.f bt192.1 bt192.2.1 bt192.2.2.1 bt192.2.2.2.1 bt192.2.2.2.2 x3).bind fun bt204 => (if bt202.2 = true then (if bt204.2 = true then (laws_FnMsName.j2 k x1 x2 bt202.1 bt204.1 ((bt202.1.size : Int) != (bt204.1.size : Int))) else (laws_FnMsName.j2 k x1 x2 bt202.1 bt204.1 true)) else (laws_FnMsName.j2 k x1 x2 bt202.1 bt204.1 true))))))))
def laws_FnMsName.j2 : Nat → ByteArray → ByteArray → ByteArray → ByteArray → Bool → Option (Bool)
  | 0, _, _, _, _, _ => none
  | k + 1, x1, x2, x11, x13, x83 => if x83 = true then (some false) else (laws_FnMsName.l0 k x1 x2 x11 x13 0)
def laws_FnMsName.l0 : Nat → ByteArray → ByteArray → ByteArray → ByteArray → Int → Option (Bool)
  | 0, _, _, _, _, _ => none
  | k + 1, x1, x2, x11, x13, x15 => if (wrap64 (x15 + (x1.size : Int))) < (x11.size : Int) then (if 0 ≤ x15 then (if x15 ≤ (wrap64 ((wrap64 (x15 + (x1.size : Int))) + 1)) then (if (wrap64 ((wrap64 (x15 + (x1.size : Int))) + 1)) ≤ (x11.size : Int) then (if x1.size + 1 ≤ 9223372036854775807 then (if (x11.extract (x15 : Int).toNat ((wrap64 ((wrap64 (x15 + (x1.size : Int))) + 1)) : Int).toNat).toList = (x1 ++ (⟨#[0]⟩ : ByteArray)).toList then (if (wrap64 ((wrap64 (x15 + (x1.size : Int))) + 1)) ≤ (x13.size : Int) then (if x2.size + 1 ≤ 9223372036854775807 then (if (x13.extract (x15 : Int).toNat ((wrap64 ((wrap64 (x15 + (x1.size : Int))) + 1)) : Int).toNat).toList = (x2 ++ (⟨#[0]⟩ : ByteArray)).toList then (if x15 ≤ (x11.size : Int) then (if x15 ≤ (x13.size : Int) then (if (x11.extract 0 (x15 : Int).toNat).toList = (x13.extract 0 (x15 : Int).toNat).toList then (if 0 ≤ (wrap64 (x15 + (x1.size : Int))) then (if (wrap64 (x15 + (x1.size : Int))) ≤ (x11.size : Int) then (if (wrap64 (x15 + (x1.size : Int))) ≤ (x13.size : Int) then (some ((x11.extract ((wrap64 (x15 + (x1.size : Int))) : Int).toNat x11.size).toList == (x13.extract ((wrap64 (x15 + (x1.size : Int))) : Int).toNat x13.size).toList)) else (none)) else (none)) else (none)) else (laws_FnMsName.l0 k x1 x2 x11 x13 (wrap64 (x15 + 1)))) else (none)) else (none)) else (laws_FnMsName.l0 k x1 x2 x11 x13 (wrap64 (x15 + 1)))) else (none)) else (none)) else (laws_FnMsName.l0 k x1 x2 x11 x13 (wrap64 (x15 + 1)))) else (none)) else (none)) else (none)) else (none)) else (some false)
end
def laws_FnMsName.f (k : Nat) (a0 : Int) (a1 : ByteArray) (a2 : ByteArray) (a3 : Bool) : Option (Bool) := if (a1.size : Int) > 2147483647 then (laws_FnMsName.j0 k a0 a1 a2 a3 true) else (laws_FnMsName.j0 k a0 a1 a2 a3 (decide ((a2.size : Int) > 2147483647)))
end
theorem laws_FnMsName.mono_l : ∀ k, (∀ y0 y1 y2 y3 y4, LeO (laws_FnMsName.j0 k y0 y1 y2 y3 y4) (laws_FnMsName.j0 (k + 1) y0 y1 y2 y3 y4)) ∧ (∀ y0 y1 y2 y3 y4, LeO (laws_FnMsName.j1 k y0 y1 y2 y3 y4) (laws_FnMsName.j1 (k + 1) y0 y1 y2 y3 y4)) ∧ (∀ y0 y1 y2 y3 y4, LeO (laws_FnMsName.j2 k y0 y1 y2 y3 y4) (laws_FnMsName.j2 (k + 1) y0 y1 y2 y3 y4)) ∧ (∀ y0 y1 y2 y3 y4, LeO (laws_FnMsName.l0 k y0 y1 y2 y3 y4) (laws_FnMsName.l0 (k + 1) y0 y1 y2 y3 y4))
  | 0 => ⟨fun _ _ _ _ _ r h => by simp [laws_FnMsName.j0] at h, fun _ _ _ _ _ r h => by simp [laws_FnMsName.j1] at h, fun _ _ _ _ _ r h => by simp [laws_FnMsName.j2] at h, fun _ _ _ _ _ r h => by simp [laws_FnMsName.l0] at h⟩
  | k + 1 => by
    obtain ⟨ih0, ih1, ih2, ih3⟩ := laws_FnMsName.mono_l k
    refine ⟨?_, ?_, ?_, ?_⟩
    · intro y0 y1 y2 y3 y4
      unfold laws_FnMsName.j0
      repeat' first
      | (with_reducible exact ih0 _ _ _ _ _)
      | (with_reducible exact ih1 _ _ _ _ _)
      | (with_reducible exact ih2 _ _ _ _ _)
      | (with_reducible exact ih3 _ _ _ _ _)
      | (with_reducible exact laws_msBase.mono _ _)
      | (with_reducible exact spec_ValidMember.mono _ _)
      | (with_reducible exact spec_WithField.mono _ _ _ _ _ _ _ _ _ _ _)
      | (with_reducible exact LeO.refl _)
      | (with_reducible exact LeO.none _)
      | (with_reducible refine LeO.ite ?_ ?_)
      | (with_reducible refine LeO.bind ?_ (fun _ => ?_))
      | exact ih0 _ _ _ _ _
      | exact ih1 _ _ _ _ _
      | exact ih2 _ _ _ _ _
      | exact ih3 _ _ _ _ _
      | exact laws_msBase.mono _ _
      | exact spec_ValidMember.mono _ _
      | exact spec_WithField.mono _ _ _ _ _ _ _ _ _ _ _
      | exact LeO.none _
      | refine LeO.ite ?_ ?_
      | refine LeO.bind ?_ (fun _ => ?_)
    · intro y0 y1 y2 y3 y4
      unfold laws_FnMsName.j1
      repeat' first
      | (with_reducible exact ih0 _ _ _ _ _)
      | (with_reducible exact ih1 _ _ _ _ _)
      | (with_reducible exact ih2 _ _ _ _ _)
      | (with_reducible exact ih3 _ _ _ _ _)
      | (with_reducible exact laws_msBase.mono _ _)
      | (with_reducible exact spec_ValidMember.mono _ _)
      | (with_reducible exact spec_WithField.mono _ _ _ _ _ _ _ _ _ _ _)
      | (with_reducible exact LeO.refl _)
      | (with_reducible exact LeO.none _)
      | (with_reducible refine LeO.ite ?_ ?_)
      | (with_reducible refine LeO.bind ?_ (fun _ => ?_))
      | exact ih0 _ _ _ _ _
      | exact ih1 _ _ _ _ _
      | exact ih2 _ _ _ _ _
      | exact ih3 _ _ _ _ _
      | exact laws_msBase.mono _ _
      | exact spec_ValidMember.mono _ _
      | exact spec_WithField.mono _ _ _ _ _ _ _ _ _ _ _
      | exact LeO.none _
      | refine LeO.ite ?_ ?_
      | refine LeO.bind ?_ (fun _ => ?_)
    · intro y0 y1 y2 y3 y4
      unfold laws_FnMsName.j2
      repeat' first
      | (with_reducible exact ih0 _ _ _ _ _)
      | (with_reducible exact ih1 _ _ _ _ _)
      | (with_reducible exact ih2 _ _ _ _ _)
      | (with_reducible exact ih3 _ _ _ _ _)
      | (with_reducible exact laws_msBase.mono _ _)
      | (with_reducible exact spec_ValidMember.mono _ _)
      | (with_reducible exact spec_WithField.mono _ _ _ _ _ _ _ _ _ _ _)
      | (with_reducible exact LeO.refl _)
      | (with_reducible exact LeO.none _)
      | (with_reducible refine LeO.ite ?_ ?_)
      | (with_reducible refine LeO.bind ?_ (fun _ => ?_))
      | exact ih0 _ _ _ _ _
      | exact ih1 _ _ _ _ _
      | exact ih2 _ _ _ _ _
      | exact ih3 _ _ _ _ _
      | exact laws_msBase.mono _ _
      | exact spec_ValidMember.mono _ _
      | exact spec_WithField.mono _ _ _ _ _ _ _ _ _ _ _
      | exact LeO.none _
      | refine LeO.ite ?_ ?_
      | refine LeO.bind ?_ (fun _ => ?_)
    · intro y0 y1 y2 y3 y4
      unfold laws_FnMsName.l0
      repeat' first
      | (with_reducible exact ih0 _ _ _ _ _)
      | (with_reducible exact ih1 _ _ _ _ _)
      | (with_reducible exact ih2 _ _ _ _ _)
      | (with_reducible exact ih3 _ _ _ _ _)
      | (with_reducible exact laws_msBase.mono _ _)
      | (with_reducible exact spec_ValidMember.mono _ _)
      | (with_reducible exact spec_WithField.mono _ _ _ _ _ _ _ _ _ _ _)
      | (with_reducible exact LeO.refl _)
      | (with_reducible exact LeO.none _)
      | (with_reducible refine LeO.ite ?_ ?_)
      | (with_reducible refine LeO.bind ?_ (fun _ => ?_))
      | exact ih0 _ _ _ _ _
      | exact ih1 _ _ _ _ _
      | exact ih2 _ _ _ _ _
      | exact ih3 _ _ _ _ _
      | exact laws_msBase.mono _ _
      | exact spec_ValidMember.mono _ _
      | exact spec_WithField.mono _ _ _ _ _ _ _ _ _ _ _
      | exact LeO.none _
      | refine LeO.ite ?_ ?_
      | refine LeO.bind ?_ (fun _ => ?_)
theorem laws_FnMsName.mono : ∀ a0 a1 a2 a3 k, LeO (laws_FnMsName.f k a0 a1 a2 a3) (laws_FnMsName.f (k + 1) a0 a1 a2 a3) := by
  intro a0 a1 a2 a3 k
  obtain ⟨ih0, ih1, ih2, ih3⟩ := laws_FnMsName.mono_l k
  unfold laws_FnMsName.f
  repeat' first
      | (with_reducible exact ih0 _ _ _ _ _)
      | (with_reducible exact ih1 _ _ _ _ _)
      | (with_reducible exact ih2 _ _ _ _ _)
      | (with_reducible exact ih3 _ _ _ _ _)
      | (with_reducible exact laws_msBase.mono _ _)
      | (with_reducible exact spec_ValidMember.mono _ _)
      | (with_reducible exact spec_WithField.mono _ _ _ _ _ _ _ _ _ _ _)
      | (with_reducible exact LeO.refl _)
      | (with_reducible exact LeO.none _)
      | (with_reducible refine LeO.ite ?_ ?_)
      | (with_reducible refine LeO.bind ?_ (fun _ => ?_))
      | exact ih0 _ _ _ _ _
      | exact ih1 _ _ _ _ _
      | exact ih2 _ _ _ _ _
      | exact ih3 _ _ _ _ _
      | exact laws_msBase.mono _ _
      | exact spec_ValidMember.mono _ _
      | exact spec_WithField.mono _ _ _ _ _ _ _ _ _ _ _
      | exact LeO.none _
      | refine LeO.ite ?_ ?_
      | refine LeO.bind ?_ (fun _ => ?_)
set_option maxHeartbeats 8000000 in
set_option maxRecDepth 100000 in
theorem laws_FnMsName.calls (k : Nat) (a0 : Int) (a1 : ByteArray) (a2 : ByteArray) (a3 : Bool) (r : Bool) (w : World) (h : laws_FnMsName.f k a0 a1 a2 a3 = some r) :
    Calls Tryz.prog 4 #[.int .u8 a0, .string a1, .string a2, .bool a3] w fun e w' => e = .returned (.bool r) ∧ Below w.heap.size w w' := by
  have hu27 := Tryz.underlying27
  have hu43 := Tryz.underlying43
  have hu39 := Tryz.underlying39
  have HB := Aside0.mk (Below.refl w.heap.size w)
  have H : (if (a1.size : Int) > 2147483647 then (laws_FnMsName.j0 k a0 a1 a2 a3 true) else (laws_FnMsName.j0 k a0 a1 a2 a3 (decide ((a2.size : Int) > 2147483647)))) = some r := h
  clear h
  have HC5 := Aside0.mk H
  clear H
  go_enter Tryz.func4, Tryz.ntmps4
  go_upto_region 1 with (fail)
  repeat (go_quiet (fail); go_upto_region 1 with (fail))
  go_cut [23] (fun v23 wc => ∃ (kq : Nat) (x23_4 : Bool), v23 = .bool x23_4 ∧ Aside0 (laws_FnMsName.j0 kq a0 a1 a2 a3 x23_4 = some r) ∧ Aside0 (kq ≤ k) ∧ Aside0 (Below w.heap.size w wc))
  case first =>
    have H := HC5.out
    clear HC5
    by_cases c6 : (a1.size : Int) > 2147483647
    · rw [if_pos c6] at H
      have c6b0 : decide (2147483647 < (a1.size : Int)) = true := decide_eq_true c6
      have c6b1 : decide (2147483647 < a1.size) = true := decide_eq_true (by omega)
      clear c6
      (first | rw [c6b0] | (simp only [i64_w, i32_w]; rw [c6b0]) | skip)
      have H' := Aside0.mk H
      clear H
      go_wp2
      repeat (go_quiet (fail); try go_wp2)
      go_meet
      case rel => exact ⟨_, (true), (by first | rfl | (simp; done) | (simp [*]; done)), H', ⟨by first | omega | exact Nat.le_refl _⟩, ⟨by repeat (first | (with_reducible first | exact HB.out | apply below_alloc | apply pw_below_drewN | apply below_drew1) | exact HB.out)⟩⟩
    · rw [if_neg c6] at H
      have c6b0 : decide (2147483647 < (a1.size : Int)) = false := decide_eq_false c6
      have c6b1 : decide (2147483647 < a1.size) = false := decide_eq_false (by omega)
      clear c6
      (first | rw [c6b0] | (simp only [i64_w, i32_w]; rw [c6b0]) | skip)
      have H' := Aside0.mk H
      clear H
      go_wp2
      repeat (go_quiet (fail); try go_wp2)
      go_meet
      case rel => exact ⟨_, (decide ((a2.size : Int) > 2147483647)), (by first | rfl | (simp; done) | (simp [*]; done)), H', ⟨by first | omega | exact Nat.le_refl _⟩, ⟨by repeat (first | (with_reducible first | exact HB.out | apply below_alloc | apply pw_below_drewN | apply below_drew1) | exact HB.out)⟩⟩
  case rest =>
    clear HC5
    try clear p2
    try clear c4
    try clear c6
    try clear c6b0
    try clear c6b1
    obtain ⟨kq, x23_4, rfl, HA, HJ4, HB⟩ := hcut
    cases kq with
    | zero => exact absurd HA.out (by simp [laws_FnMsName.j0])
    | succ kj4 =>
      have H := HA.out
      clear HA
      simp only [laws_FnMsName.j0] at H
      by_cases c7 : x23_4 = true
      · subst c7
        have H1 : (some true) = some r := by rw [if_pos rfl] at H; exact H
        clear H
        have H := H1
        clear H1
        obtain rfl := Option.some.inj H
        go_wp2
        repeat (go_quiet (fail); try go_wp2)
        go_ret
        exact ⟨by first | rfl | (simp [errW_none, errW_some] <;> rfl) | (simp [*, errW_none, errW_some] <;> rfl), by repeat (first | (with_reducible first | exact HB.out | apply below_alloc | apply pw_below_drewN | apply below_drew1) | exact HB.out)⟩
      · replace c7 := Bool.eq_false_iff.mpr c7
        subst c7
        have H1 : (if a0 < 1 then (laws_FnMsName.j1 kj4 a0 a1 a2 a3 true) else (if a0 > 4 then (laws_FnMsName.j1 kj4 a0 a1 a2 a3 true) else (if (a1.size : Int) = (a2.size : Int) then ((spec_ValidMember.f kj4 a1).bind fun t162 => (if t162 = true then ((spec_ValidMember.f kj4 a2).bind fun t163 => (laws_FnMsName.j1 kj4 a0 a1 a2 a3 (!t163))) else (laws_FnMsName.j1 kj4 a0 a1 a2 a3 true))) else (laws_FnMsName.j1 kj4 a0 a1 a2 a3 true)))) = some r := by rw [if_neg (show ¬ (false = true) by decide)] at H; exact H
        clear H
        have H := H1
        clear H1
        have HC8 := Aside0.mk H
        clear H
        go_upto_region 3 with (fail)
        repeat (go_quiet (fail); go_upto_region 3 with (fail))
        go_cut [46] (fun v46 wc => ∃ (kq : Nat) (x46_7 : Bool), v46 = .bool x46_7 ∧ Aside0 (laws_FnMsName.j1 kq a0 a1 a2 a3 x46_7 = some r) ∧ Aside0 (kq ≤ kj4) ∧ Aside0 (Below w.heap.size w wc))
        case first =>
          have H := HC8.out
          clear HC8
          by_cases c9 : a0 < 1
          · rw [if_pos c9] at H
            have c9b0 : decide (a0 < 1) = true := decide_eq_true c9
            clear c9
            (first | rw [c9b0] | (simp only [i64_w, i32_w]; rw [c9b0]) | skip)
            have H' := Aside0.mk H
            clear H
            go_wp2
            repeat (go_quiet (fail); try go_wp2)
            go_meet
            case rel => exact ⟨_, (true), (by first | rfl | (simp; done) | (simp [*]; done)), H', ⟨by have := HJ4.out; first | omega | exact Nat.le_refl _⟩, ⟨by repeat (first | (with_reducible first | exact HB.out | apply below_alloc | apply pw_below_drewN | apply below_drew1) | exact HB.out)⟩⟩
          · rw [if_neg c9] at H
            have c9b0 : decide (a0 < 1) = false := decide_eq_false c9
            clear c9
            (first | rw [c9b0] | (simp only [i64_w, i32_w]; rw [c9b0]) | skip)
            by_cases c10 : a0 > 4
            · rw [if_pos c10] at H
              have c10b0 : decide (4 < a0) = true := decide_eq_true c10
              clear c10
              have H' := Aside0.mk H
              clear H
              go_wp2
              repeat (go_quiet (fail); try go_wp2)
              go_meet
              case rel => exact ⟨_, (true), (by first | rfl | (simp; done) | (simp [*]; done)), H', ⟨by have := HJ4.out; first | omega | exact Nat.le_refl _⟩, ⟨by repeat (first | (with_reducible first | exact HB.out | apply below_alloc | apply pw_below_drewN | apply below_drew1) | exact HB.out)⟩⟩
            · rw [if_neg c10] at H
              have c10b0 : decide (4 < a0) = false := decide_eq_false c10
              clear c10
              by_cases c11 : (a1.size : Int) = (a2.size : Int)
              · rw [if_pos c11] at H
                have c11b0 : ((a1.size : Int) == (a2.size : Int)) = true := beq_iff_eq.mpr c11
                have c11b1 : ((a1.size : Int) != (a2.size : Int)) = false := bne_eq_false_iff_eq.mpr c11
                have c11b2 : (a1.size == a2.size) = true := by first | simpa using c11 | (simp at c11 ⊢; omega)
                clear c11
                replace H := Option.bind_eq_some_iff.mp H
                obtain ⟨t162, A120, H⟩ := H
                replace H : (if t162 = true then ((spec_ValidMember.f kj4 a2).bind fun t163 => (laws_FnMsName.j1 kj4 a0 a1 a2 a3 (!t163))) else (laws_FnMsName.j1 kj4 a0 a1 a2 a3 true)) = some r := H
                have A12 := Aside0.mk A120
                clear A120
                by_cases c13 : t162 = true
                · subst c13
                  have H1 : ((spec_ValidMember.f kj4 a2).bind fun t163 => (laws_FnMsName.j1 kj4 a0 a1 a2 a3 (!t163))) = some r := by rw [if_pos rfl] at H; exact H
                  clear H
                  have H := H1
                  clear H1
                  replace H := Option.bind_eq_some_iff.mp H
                  obtain ⟨t163, A140, H⟩ := H
                  replace H : (laws_FnMsName.j1 kj4 a0 a1 a2 a3 (!t163)) = some r := H
                  have A14 := Aside0.mk A140
                  clear A140
                  have H' := Aside0.mk H
                  clear H
                  go_wp2_with (first | (go_at_call 9; (with_reducible refine (spec_ValidMember.calls kj4 a1 true _ A12.out).mono ?_); rintro e w15 ⟨rfl, hb⟩; have n0_ := Aside0.mk (below_step (by repeat (first | (with_reducible first | exact HB.out | apply below_alloc | apply pw_below_drewN | apply below_drew1) | exact HB.out)) hb); clear HB; have HB := n0_; clear n0_; (try clear hb); (try clear hb2); (try clear hk); (try clear hi)) | (go_at_call 9; (with_reducible refine (spec_ValidMember.calls kj4 a2 t163 _ A14.out).mono ?_); rintro e w16 ⟨rfl, hb⟩; have n0_ := Aside0.mk (below_step (by repeat (first | (with_reducible first | exact HB.out | apply below_alloc | apply pw_below_drewN | apply below_drew1) | exact HB.out)) hb); clear HB; have HB := n0_; clear n0_; (try clear hb); (try clear hb2); (try clear hk); (try clear hi)))
                  repeat (go_quiet (first | (go_at_call 9; (with_reducible refine (spec_ValidMember.calls kj4 a1 true _ A12.out).mono ?_); rintro e w15 ⟨rfl, hb⟩; have n0_ := Aside0.mk (below_step (by repeat (first | (with_reducible first | exact HB.out | apply below_alloc | apply pw_below_drewN | apply below_drew1) | exact HB.out)) hb); clear HB; have HB := n0_; clear n0_; (try clear hb); (try clear hb2); (try clear hk); (try clear hi)) | (go_at_call 9; (with_reducible refine (spec_ValidMember.calls kj4 a2 t163 _ A14.out).mono ?_); rintro e w16 ⟨rfl, hb⟩; have n0_ := Aside0.mk (below_step (by repeat (first | (with_reducible first | exact HB.out | apply below_alloc | apply pw_below_drewN | apply below_drew1) | exact HB.out)) hb); clear HB; have HB := n0_; clear n0_; (try clear hb); (try clear hb2); (try clear hk); (try clear hi))); try go_wp2_with (first | (go_at_call 9; (with_reducible refine (spec_ValidMember.calls kj4 a1 true _ A12.out).mono ?_); rintro e w15 ⟨rfl, hb⟩; have n0_ := Aside0.mk (below_step (by repeat (first | (with_reducible first | exact HB.out | apply below_alloc | apply pw_below_drewN | apply below_drew1) | exact HB.out)) hb); clear HB; have HB := n0_; clear n0_; (try clear hb); (try clear hb2); (try clear hk); (try clear hi)) | (go_at_call 9; (with_reducible refine (spec_ValidMember.calls kj4 a2 t163 _ A14.out).mono ?_); rintro e w16 ⟨rfl, hb⟩; have n0_ := Aside0.mk (below_step (by repeat (first | (with_reducible first | exact HB.out | apply below_alloc | apply pw_below_drewN | apply below_drew1) | exact HB.out)) hb); clear HB; have HB := n0_; clear n0_; (try clear hb); (try clear hb2); (try clear hk); (try clear hi))))
                  go_meet
                  case rel => exact ⟨_, (!t163), (by first | rfl | (simp; done) | (simp [*]; done)), H', ⟨by have := HJ4.out; first | omega | exact Nat.le_refl _⟩, ⟨by repeat (first | (with_reducible first | exact HB.out | apply below_alloc | apply pw_below_drewN | apply below_drew1) | exact HB.out)⟩⟩
                · replace c13 := Bool.eq_false_iff.mpr c13
                  subst c13
                  have H1 : (laws_FnMsName.j1 kj4 a0 a1 a2 a3 true) = some r := by rw [if_neg (show ¬ (false = true) by decide)] at H; exact H
                  clear H
                  have H := H1
                  clear H1
                  have H' := Aside0.mk H
                  clear H
                  go_wp2_with (first | (go_at_call 9; (with_reducible refine (spec_ValidMember.calls kj4 a1 false _ A12.out).mono ?_); rintro e w17 ⟨rfl, hb⟩; have n0_ := Aside0.mk (below_step (by repeat (first | (with_reducible first | exact HB.out | apply below_alloc | apply pw_below_drewN | apply below_drew1) | exact HB.out)) hb); clear HB; have HB := n0_; clear n0_; (try clear hb); (try clear hb2); (try clear hk); (try clear hi)))
                  repeat (go_quiet (first | (go_at_call 9; (with_reducible refine (spec_ValidMember.calls kj4 a1 false _ A12.out).mono ?_); rintro e w17 ⟨rfl, hb⟩; have n0_ := Aside0.mk (below_step (by repeat (first | (with_reducible first | exact HB.out | apply below_alloc | apply pw_below_drewN | apply below_drew1) | exact HB.out)) hb); clear HB; have HB := n0_; clear n0_; (try clear hb); (try clear hb2); (try clear hk); (try clear hi))); try go_wp2_with (first | (go_at_call 9; (with_reducible refine (spec_ValidMember.calls kj4 a1 false _ A12.out).mono ?_); rintro e w17 ⟨rfl, hb⟩; have n0_ := Aside0.mk (below_step (by repeat (first | (with_reducible first | exact HB.out | apply below_alloc | apply pw_below_drewN | apply below_drew1) | exact HB.out)) hb); clear HB; have HB := n0_; clear n0_; (try clear hb); (try clear hb2); (try clear hk); (try clear hi))))
                  go_meet
                  case rel => exact ⟨_, (true), (by first | rfl | (simp; done) | (simp [*]; done)), H', ⟨by have := HJ4.out; first | omega | exact Nat.le_refl _⟩, ⟨by repeat (first | (with_reducible first | exact HB.out | apply below_alloc | apply pw_below_drewN | apply below_drew1) | exact HB.out)⟩⟩
              · rw [if_neg c11] at H
                have c11b0 : ((a1.size : Int) == (a2.size : Int)) = false := beq_eq_false_iff_ne.mpr c11
                have c11b1 : ((a1.size : Int) != (a2.size : Int)) = true := bne_iff_ne.mpr c11
                have c11b2 : (a1.size == a2.size) = false := by first | simpa using c11 | (simp at c11 ⊢; omega)
                have H' := Aside0.mk H
                clear H
                go_wp2
                repeat (go_quiet (fail); try go_wp2)
                go_meet
                case rel => exact ⟨_, (true), (by first | rfl | (simp; done) | (simp [*]; done)), H', ⟨by have := HJ4.out; first | omega | exact Nat.le_refl _⟩, ⟨by repeat (first | (with_reducible first | exact HB.out | apply below_alloc | apply pw_below_drewN | apply below_drew1) | exact HB.out)⟩⟩
        case rest =>
          clear HC8
          try clear c1
          try clear p2
          try clear c4
          try clear c6
          try clear c6b0
          try clear c6b1
          try clear c7
          try clear c9
          try clear c9b0
          try clear c10
          try clear c10b0
          try clear c11
          try clear c11b0
          try clear c11b1
          try clear c11b2
          try clear c13
          try clear p2
          obtain ⟨kq, x46_7, rfl, HA, HJ7, HB⟩ := hcut
          cases kq with
          | zero => exact absurd HA.out (by simp [laws_FnMsName.j1])
          | succ kj7 =>
            have H := HA.out
            clear HA
            simp only [laws_FnMsName.j1] at H
            by_cases c18 : x46_7 = true
            · subst c18
              have H1 : (some true) = some r := by rw [if_pos rfl] at H; exact H
              clear H
              have H := H1
              clear H1
              obtain rfl := Option.some.inj H
              go_wp2
              repeat (go_quiet (fail); try go_wp2)
              go_ret
              exact ⟨by first | rfl | (simp [errW_none, errW_some] <;> rfl) | (simp [*, errW_none, errW_some] <;> rfl), by repeat (first | (with_reducible first | exact HB.out | apply below_alloc | apply pw_below_drewN | apply below_drew1) | exact HB.out)⟩
            · replace c18 := Bool.eq_false_iff.mpr c18
              subst c18
              have H1 : ((laws_msBase.f kj7 a0).bind fun bt164 => ((spec_WithField.f kj7 bt164.1 bt164.2.1 bt164.2.2.1 bt164.2.2.2.1 bt164.2.2.2.2 3 115 0 a1 ([] : List (S27))).bind fun bt173 => ((laws_msBase.f kj7 a0).bind fun bt183 => ((spec_WithField.f kj7 bt183.1 bt183.2.1 bt183.2.2.1 bt183.2.2.2.1 bt183.2.2.2.2 3 115 0 a2 ([] : List (S27))).bind fun bt192 => ((Given.MsEncode.f bt173.1 bt173.2.1 bt173.2.2.1 bt173.2.2.2.1 bt173.2.2.2.2 a3).bind fun bt202 => ((Given.MsEncode.f bt192.1 bt192.2.1 bt192.2.2.1 bt192.2.2.2.1 bt192.2.2.2.2 a3).bind fun bt204 => (if bt202.2 = true then (if bt204.2 = true then (laws_FnMsName.j2 kj7 a1 a2 bt202.1 bt204.1 ((bt202.1.size : Int) != (bt204.1.size : Int))) else (laws_FnMsName.j2 kj7 a1 a2 bt202.1 bt204.1 true)) else (laws_FnMsName.j2 kj7 a1 a2 bt202.1 bt204.1 true)))))))) = some r := by rw [if_neg (show ¬ (false = true) by decide)] at H; exact H
              clear H
              have H := H1
              clear H1
              replace H := Option.bind_eq_some_iff.mp H
              obtain ⟨⟨t164, t165, t166, t167, t170⟩, A190, H⟩ := H
              replace H : ((spec_WithField.f kj7 t164 t165 t166 t167 t170 3 115 0 a1 ([] : List (S27))).bind fun bt173 => ((laws_msBase.f kj7 a0).bind fun bt183 => ((spec_WithField.f kj7 bt183.1 bt183.2.1 bt183.2.2.1 bt183.2.2.2.1 bt183.2.2.2.2 3 115 0 a2 ([] : List (S27))).bind fun bt192 => ((Given.MsEncode.f bt173.1 bt173.2.1 bt173.2.2.1 bt173.2.2.2.1 bt173.2.2.2.2 a3).bind fun bt202 => ((Given.MsEncode.f bt192.1 bt192.2.1 bt192.2.2.1 bt192.2.2.2.1 bt192.2.2.2.2 a3).bind fun bt204 => (if bt202.2 = true then (if bt204.2 = true then (laws_FnMsName.j2 kj7 a1 a2 bt202.1 bt204.1 ((bt202.1.size : Int) != (bt204.1.size : Int))) else (laws_FnMsName.j2 kj7 a1 a2 bt202.1 bt204.1 true)) else (laws_FnMsName.j2 kj7 a1 a2 bt202.1 bt204.1 true))))))) = some r := H
              have A19 := Aside0.mk A190
              clear A190
              replace H := Option.bind_eq_some_iff.mp H
              obtain ⟨⟨t173, t174, t175, t176, t179⟩, A200, H⟩ := H
              replace H : ((laws_msBase.f kj7 a0).bind fun bt183 => ((spec_WithField.f kj7 bt183.1 bt183.2.1 bt183.2.2.1 bt183.2.2.2.1 bt183.2.2.2.2 3 115 0 a2 ([] : List (S27))).bind fun bt192 => ((Given.MsEncode.f t173 t174 t175 t176 t179 a3).bind fun bt202 => ((Given.MsEncode.f bt192.1 bt192.2.1 bt192.2.2.1 bt192.2.2.2.1 bt192.2.2.2.2 a3).bind fun bt204 => (if bt202.2 = true then (if bt204.2 = true then (laws_FnMsName.j2 kj7 a1 a2 bt202.1 bt204.1 ((bt202.1.size : Int) != (bt204.1.size : Int))) else (laws_FnMsName.j2 kj7 a1 a2 bt202.1 bt204.1 true)) else (laws_FnMsName.j2 kj7 a1 a2 bt202.1 bt204.1 true)))))) = some r := H
              have A20 := Aside0.mk A200
              clear A200
              replace H := Option.bind_eq_some_iff.mp H
              obtain ⟨⟨t183, t184, t185, t186, t189⟩, A210, H⟩ := H
              replace H : ((spec_WithField.f kj7 t183 t184 t185 t186 t189 3 115 0 a2 ([] : List (S27))).bind fun bt192 => ((Given.MsEncode.f t173 t174 t175 t176 t179 a3).bind fun bt202 => ((Given.MsEncode.f bt192.1 bt192.2.1 bt192.2.2.1 bt192.2.2.2.1 bt192.2.2.2.2 a3).bind fun bt204 => (if bt202.2 = true then (if bt204.2 = true then (laws_FnMsName.j2 kj7 a1 a2 bt202.1 bt204.1 ((bt202.1.size : Int) != (bt204.1.size : Int))) else (laws_FnMsName.j2 kj7 a1 a2 bt202.1 bt204.1 true)) else (laws_FnMsName.j2 kj7 a1 a2 bt202.1 bt204.1 true))))) = some r := H
              have A21 := Aside0.mk A210
              clear A210
              replace H := Option.bind_eq_some_iff.mp H
              obtain ⟨⟨t192, t193, t194, t195, t198⟩, A220, H⟩ := H
              replace H : ((Given.MsEncode.f t173 t174 t175 t176 t179 a3).bind fun bt202 => ((Given.MsEncode.f t192 t193 t194 t195 t198 a3).bind fun bt204 => (if bt202.2 = true then (if bt204.2 = true then (laws_FnMsName.j2 kj7 a1 a2 bt202.1 bt204.1 ((bt202.1.size : Int) != (bt204.1.size : Int))) else (laws_FnMsName.j2 kj7 a1 a2 bt202.1 bt204.1 true)) else (laws_FnMsName.j2 kj7 a1 a2 bt202.1 bt204.1 true)))) = some r := H
              have A22 := Aside0.mk A220
              clear A220
              replace H := Option.bind_eq_some_iff.mp H
              obtain ⟨⟨t202, t203⟩, A230, H⟩ := H
              replace H : ((Given.MsEncode.f t192 t193 t194 t195 t198 a3).bind fun bt204 => (if t203 = true then (if bt204.2 = true then (laws_FnMsName.j2 kj7 a1 a2 t202 bt204.1 ((t202.size : Int) != (bt204.1.size : Int))) else (laws_FnMsName.j2 kj7 a1 a2 t202 bt204.1 true)) else (laws_FnMsName.j2 kj7 a1 a2 t202 bt204.1 true))) = some r := H
              have A23 := Aside0.mk A230
              clear A230
              replace H := Option.bind_eq_some_iff.mp H
              obtain ⟨⟨t204, t205⟩, A240, H⟩ := H
              replace H : (if t203 = true then (if t205 = true then (laws_FnMsName.j2 kj7 a1 a2 t202 t204 ((t202.size : Int) != (t204.size : Int))) else (laws_FnMsName.j2 kj7 a1 a2 t202 t204 true)) else (laws_FnMsName.j2 kj7 a1 a2 t202 t204 true)) = some r := H
              have A24 := Aside0.mk A240
              clear A240
              have HC25 := Aside0.mk H
              clear H
              go_upto_region 9 with (first | (go_at_call 11; (with_reducible refine (laws_msBase.calls kj7 a0 t164 t165 t166 t167 t170 _ A19.out).mono ?_); rintro e w26 ⟨v168, v171, rfl, ho0, ho1, hb⟩; have n0_ := Aside0.mk (Kd.N_lower (Kd.N_mono (ok' := fun k_ => some k_ ≠ (v171 : Value).ownBlock) (Kd.R_N (Kd.R_bound ho0)) (fun k_ hk_ => hk_.1)) (below_size (by repeat (first | (with_reducible first | exact HB.out | apply below_alloc | apply pw_below_drewN | apply below_drew1) | exact HB.out)))); have n1_ := Aside0.mk (Kd.N_lower (Kd.N_mono (ok' := fun k_ => some k_ ≠ (v168 : Value).ownBlock) (Kd.R_N (Kd.R_bound (Kd.R_apart' ho1 (Kd.R_typed ho0) (by decide)))) (fun k_ hk_ => hk_.1.2)) (below_size (by repeat (first | (with_reducible first | exact HB.out | apply below_alloc | apply pw_below_drewN | apply below_drew1) | exact HB.out)))); have n2_ := Aside0.mk (below_step (by repeat (first | (with_reducible first | exact HB.out | apply below_alloc | apply pw_below_drewN | apply below_drew1) | exact HB.out)) hb); clear HB; have HO169 := n0_; have HO172 := n1_; have HB := n2_; clear n0_ n1_ n2_; (try clear hb); (try clear hb2); (try clear hk); (try clear hi); (try clear ho0); (try clear ho1); obtain ⟨Ao27, co27, eo27⟩ := Kd.N_slice HO169.out; subst eo27; obtain ⟨Ao28, co28, eo28⟩ := Kd.N_slice HO172.out; subst eo28) | (go_at_call 10; (refine (spec_WithField.calls kj7 t164 t165 t166 (fun k_ => some k_ ≠ (.slice Ao28 t170.length co28 : Value).ownBlock) _ _ t167 (fun k_ => some k_ ≠ (.slice Ao27 t167.length co27 : Value).ownBlock) _ _ t170 3 115 0 a1 (fun k_ => False) _ _ ([] : List (S27)) t173 t174 t175 t176 t179 _ ?side1 ?side2 ?side3 A20.out).mono ?_); (case side1 => exact Kd.N_V (HO169.out)); (case side2 => exact Kd.N_V (HO172.out)); (case side3 => exact Kd.V_nil _ _ _ _ _); rintro e w29 ⟨v177, v180, rfl, ho0, ho1, hb⟩; have n0_ := Aside0.mk (Kd.N_elder' (by (with_reducible repeat (first | apply Kd.N_alloc | apply Kd.N_drewN | apply Kd.N_drew)); exact HO169.out) (Kd.N_base ho0) hb); have n1_ := Aside0.mk (Kd.N_elder' (by (with_reducible repeat (first | apply Kd.N_alloc | apply Kd.N_drewN | apply Kd.N_drew)); exact HO172.out) (Kd.N_base ho0) hb); have n2_ := Aside0.mk (Kd.N_lower (Kd.N_mono (ok' := fun k_ => True) ho0 (fun k_ hk_ => trivial)) (below_size (by repeat (first | (with_reducible first | exact HB.out | apply below_alloc | apply pw_below_drewN | apply below_drew1) | exact HB.out)))); have n3_ := Aside0.mk (Kd.V_lower (Kd.V_mono (ok' := fun k_ => some k_ ≠ (v177 : Value).ownBlock) ho1 (fun k_ hk_ => hk_.2)) (below_size (by repeat (first | (with_reducible first | exact HB.out | apply below_alloc | apply pw_below_drewN | apply below_drew1) | exact HB.out)))); have n4_ := Aside0.mk (below_step (by repeat (first | (with_reducible first | exact HB.out | apply below_alloc | apply pw_below_drewN | apply below_drew1) | exact HB.out)) hb); clear HO169; clear HO172; clear HB; have HO169 := n0_; have HO172 := n1_; have HO178 := n2_; have HO181 := n3_; have HB := n4_; clear n0_ n1_ n2_ n3_ n4_; (try clear hb); (try clear hb2); (try clear hk); (try clear hi); (try clear ho0); (try clear ho1)) | ((with_reducible refine gate_dst (N := 9) rfl ?_); (try (refine gate_guard (by rfl) ?_; dsimp only)); refine box_event ?hg (N := 9) ?hd (cs := #[.int .u8 0, .int .u8 0, .int .u32 0, .slice none 0 0, .slice none 0 0]) (t := 39) ?hr ?_; (case hd => rfl); (case hg => rfl); (case hr => first | (go_simp; done) | (go_simp; rfl)); intro gb182 hg w30 hbox hb; have n0_ := Aside0.mk (Kd.N_below (Kd.N_elderB (by (with_reducible repeat (first | apply Kd.N_alloc | apply Kd.N_drewN | apply Kd.N_drew)); exact HO169.out) gb182 (Nat.le_of_eq hg.symm)) hb); have n1_ := Aside0.mk (Kd.N_below (Kd.N_elderB (by (with_reducible repeat (first | apply Kd.N_alloc | apply Kd.N_drewN | apply Kd.N_drew)); exact HO172.out) gb182 (Nat.le_of_eq hg.symm)) hb); have n2_ := Aside0.mk (Kd.N_below (Kd.N_elderB (by (with_reducible repeat (first | apply Kd.N_alloc | apply Kd.N_drewN | apply Kd.N_drew)); exact HO178.out) gb182 (Nat.le_of_eq hg.symm)) hb); have n3_ := Aside0.mk (Kd.V_below (Kd.V_elderB (by (with_reducible repeat (first | apply Kd.V_alloc | apply Kd.V_drewN | apply Kd.V_drew)); exact HO181.out) gb182 (Nat.le_of_eq hg.symm)) hb); have n4_ := Aside0.mk (below_step (by repeat (first | (with_reducible first | exact HB.out | apply below_alloc | apply pw_below_drewN | apply below_drew1) | exact HB.out)) hb); have n5_ := Aside0.mk (hbox); have n6_ := Aside0.mk ((by rw [hg]; exact (below_size (by repeat (first | (with_reducible first | exact HB.out | apply below_alloc | apply pw_below_drewN | apply below_drew1) | exact HB.out))) : w.heap.size ≤ gb182)); have n7_ := Aside0.mk ((by rw [hg]; exact (below_size (by repeat (first | (with_reducible first | exact HB.out | apply below_alloc | apply pw_below_drewN | apply below_drew1) | exact HB.out))) : w.heap.size ≤ gb182)); clear HO169; clear HO172; clear HO178; clear HO181; clear HB; have HO169 := n0_; have HO172 := n1_; have HO178 := n2_; have HO181 := n3_; have HB := n4_; have BK182 := n5_; have GW182 := n6_; have GE182 := n7_; clear n0_ n1_ n2_ n3_ n4_ n5_ n6_ n7_; clear hb hbox hg; have hcz31_0 : w30.cell? ⟨gb182, 0, none⟩ = some (.int .u8 0) := (blk_cell BK182.out 0).trans rfl; have hcz31_1 : w30.cell? ⟨gb182, 1, none⟩ = some (.int .u8 0) := (blk_cell BK182.out 1).trans rfl; have hcz31_2 : w30.cell? ⟨gb182, 2, none⟩ = some (.int .u32 0) := (blk_cell BK182.out 2).trans rfl; have hcz31_3 : w30.cell? ⟨gb182, 3, none⟩ = some (.slice none 0 0) := (blk_cell BK182.out 3).trans rfl; have hcz31_4 : w30.cell? ⟨gb182, 4, none⟩ = some (.slice none 0 0) := (blk_cell BK182.out 4).trans rfl; have hfz31_0 := blk_frozen BK182.out 0; have hfz31_1 := blk_frozen BK182.out 1; have hfz31_2 := blk_frozen BK182.out 2; have hfz31_3 := blk_frozen BK182.out 3; have hfz31_4 := blk_frozen BK182.out 4; obtain ⟨Ao32, co32, eo32⟩ := Kd.N_slice HO178.out; subst eo32; obtain ⟨Ao33, co33, eo33⟩ := Kd.V_slice HO181.out; subst eo33))
              (with_reducible refine (laws_msBase.calls kj7 a0 t183 t184 t185 t186 t189 _ A21.out).mono ?_)
              rintro e w34 ⟨v187, v190, rfl, ho0, ho1, hb⟩
              have n0_ := Aside0.mk (Kd.N_mono (Kd.N_told (Kd.N_told (Kd.N_old (by (with_reducible repeat (first | apply Kd.N_alloc | apply Kd.N_drewN | apply Kd.N_drew)); exact (Kd.N_mono (Kd.N_far (p := ⟨gb182, 4, none⟩) (Kd.N_far (p := ⟨gb182, 3, none⟩) (Kd.N_far (p := ⟨gb182, 2, none⟩) (Kd.N_far (p := ⟨gb182, 1, none⟩) (Kd.N_far (p := ⟨gb182, 0, none⟩) (Kd.N_mono HO169.out (fun k_ hk => (⟨hk, hk.2⟩ : _ ∧ k_ ≠ gb182))) (fun _ hk => hk.2) (.int .u8 t173)) (fun _ hk => hk.2) (.int .u8 t174)) (fun _ hk => hk.2) (.int .u32 t175)) (fun _ hk => hk.2) (.slice Ao32 t176.length co32)) (fun _ hk => hk.2) (.slice Ao33 t179.length co33)) (fun _ h_ => h_.1))) hb) (Kd.N_base (Kd.R_N (Kd.R_bound ho0)))) (Kd.N_base (Kd.R_N (Kd.R_bound ho1)))) (fun _ h_ => h_.1))
              have n1_ := Aside0.mk (Kd.N_mono (Kd.N_told (Kd.N_told (Kd.N_old (by (with_reducible repeat (first | apply Kd.N_alloc | apply Kd.N_drewN | apply Kd.N_drew)); exact (Kd.N_mono (Kd.N_far (p := ⟨gb182, 4, none⟩) (Kd.N_far (p := ⟨gb182, 3, none⟩) (Kd.N_far (p := ⟨gb182, 2, none⟩) (Kd.N_far (p := ⟨gb182, 1, none⟩) (Kd.N_far (p := ⟨gb182, 0, none⟩) (Kd.N_mono HO172.out (fun k_ hk => (⟨hk, hk.2⟩ : _ ∧ k_ ≠ gb182))) (fun _ hk => hk.2) (.int .u8 t173)) (fun _ hk => hk.2) (.int .u8 t174)) (fun _ hk => hk.2) (.int .u32 t175)) (fun _ hk => hk.2) (.slice Ao32 t176.length co32)) (fun _ hk => hk.2) (.slice Ao33 t179.length co33)) (fun _ h_ => h_.1))) hb) (Kd.N_base (Kd.R_N (Kd.R_bound ho0)))) (Kd.N_base (Kd.R_N (Kd.R_bound ho1)))) (fun _ h_ => h_.1))
              have n2_ := Aside0.mk (Kd.N_mono (Kd.N_told (Kd.N_told (Kd.N_old (by (with_reducible repeat (first | apply Kd.N_alloc | apply Kd.N_drewN | apply Kd.N_drew)); exact (Kd.N_mono (Kd.N_far (p := ⟨gb182, 4, none⟩) (Kd.N_far (p := ⟨gb182, 3, none⟩) (Kd.N_far (p := ⟨gb182, 2, none⟩) (Kd.N_far (p := ⟨gb182, 1, none⟩) (Kd.N_far (p := ⟨gb182, 0, none⟩) (Kd.N_mono HO178.out (fun k_ hk => (⟨hk, hk.2⟩ : _ ∧ k_ ≠ gb182))) (fun _ hk => hk.2) (.int .u8 t173)) (fun _ hk => hk.2) (.int .u8 t174)) (fun _ hk => hk.2) (.int .u32 t175)) (fun _ hk => hk.2) (.slice Ao32 t176.length co32)) (fun _ hk => hk.2) (.slice Ao33 t179.length co33)) (fun _ h_ => h_.1))) hb) (Kd.N_base (Kd.R_N (Kd.R_bound ho0)))) (Kd.N_base (Kd.R_N (Kd.R_bound ho1)))) (fun _ h_ => h_.1))
              have n3_ := Aside0.mk (Kd.V_mono (Kd.V_told (Kd.V_told (Kd.V_old (by (with_reducible repeat (first | apply Kd.V_alloc | apply Kd.V_drewN | apply Kd.V_drew)); exact (Kd.V_mono (Kd.V_far (p := ⟨gb182, 4, none⟩) (Kd.V_far (p := ⟨gb182, 3, none⟩) (Kd.V_far (p := ⟨gb182, 2, none⟩) (Kd.V_far (p := ⟨gb182, 1, none⟩) (Kd.V_far (p := ⟨gb182, 0, none⟩) (Kd.V_mono HO181.out (fun k_ hk => (⟨hk, hk.2⟩ : _ ∧ k_ ≠ gb182))) (fun _ hk => hk.2) (.int .u8 t173)) (fun _ hk => hk.2) (.int .u8 t174)) (fun _ hk => hk.2) (.int .u32 t175)) (fun _ hk => hk.2) (.slice Ao32 t176.length co32)) (fun _ hk => hk.2) (.slice Ao33 t179.length co33)) (fun _ h_ => h_.1))) hb) (Kd.N_base (Kd.R_N (Kd.R_bound ho0)))) (Kd.N_base (Kd.R_N (Kd.R_bound ho1)))) (fun _ h_ => h_.1))
              have n4_ := Aside0.mk (Kd.N_lower (Kd.N_mono (ok' := fun k_ => some k_ ≠ (v190 : Value).ownBlock ∧ some k_ ≠ (.slice Ao27 t167.length co27 : Value).ownBlock ∧ some k_ ≠ (.slice Ao28 t170.length co28 : Value).ownBlock ∧ some k_ ≠ (.slice Ao32 t176.length co32 : Value).ownBlock ∧ k_ ≠ gb182) (Kd.R_N (Kd.R_bound ho0)) (fun k_ hk_ => ⟨hk_.1, (Kd.fresh' (Kd.N_lt (by (with_reducible repeat (first | apply Kd.N_alloc | apply Kd.N_drewN | apply Kd.N_drew)); exact (Kd.N_mono (Kd.N_far (p := ⟨gb182, 4, none⟩) (Kd.N_far (p := ⟨gb182, 3, none⟩) (Kd.N_far (p := ⟨gb182, 2, none⟩) (Kd.N_far (p := ⟨gb182, 1, none⟩) (Kd.N_far (p := ⟨gb182, 0, none⟩) (Kd.N_mono HO169.out (fun k_ hk => (⟨hk, hk.2⟩ : _ ∧ k_ ≠ gb182))) (fun _ hk => hk.2) (.int .u8 t173)) (fun _ hk => hk.2) (.int .u8 t174)) (fun _ hk => hk.2) (.int .u32 t175)) (fun _ hk => hk.2) (.slice Ao32 t176.length co32)) (fun _ hk => hk.2) (.slice Ao33 t179.length co33)) (fun _ h_ => h_.1)))) k_ hk_.2.1), (Kd.fresh' (Kd.N_lt (by (with_reducible repeat (first | apply Kd.N_alloc | apply Kd.N_drewN | apply Kd.N_drew)); exact (Kd.N_mono (Kd.N_far (p := ⟨gb182, 4, none⟩) (Kd.N_far (p := ⟨gb182, 3, none⟩) (Kd.N_far (p := ⟨gb182, 2, none⟩) (Kd.N_far (p := ⟨gb182, 1, none⟩) (Kd.N_far (p := ⟨gb182, 0, none⟩) (Kd.N_mono HO172.out (fun k_ hk => (⟨hk, hk.2⟩ : _ ∧ k_ ≠ gb182))) (fun _ hk => hk.2) (.int .u8 t173)) (fun _ hk => hk.2) (.int .u8 t174)) (fun _ hk => hk.2) (.int .u32 t175)) (fun _ hk => hk.2) (.slice Ao32 t176.length co32)) (fun _ hk => hk.2) (.slice Ao33 t179.length co33)) (fun _ h_ => h_.1)))) k_ hk_.2.1), (Kd.fresh' (Kd.N_lt (by (with_reducible repeat (first | apply Kd.N_alloc | apply Kd.N_drewN | apply Kd.N_drew)); exact (Kd.N_mono (Kd.N_far (p := ⟨gb182, 4, none⟩) (Kd.N_far (p := ⟨gb182, 3, none⟩) (Kd.N_far (p := ⟨gb182, 2, none⟩) (Kd.N_far (p := ⟨gb182, 1, none⟩) (Kd.N_far (p := ⟨gb182, 0, none⟩) (Kd.N_mono HO178.out (fun k_ hk => (⟨hk, hk.2⟩ : _ ∧ k_ ≠ gb182))) (fun _ hk => hk.2) (.int .u8 t173)) (fun _ hk => hk.2) (.int .u8 t174)) (fun _ hk => hk.2) (.int .u32 t175)) (fun _ hk => hk.2) (.slice Ao32 t176.length co32)) (fun _ hk => hk.2) (.slice Ao33 t179.length co33)) (fun _ h_ => h_.1)))) k_ hk_.2.1), (Kd.freshB (g := gb182) (o := .cells #[.int .u8 t173, .int .u8 t174, .int .u32 t175, .slice Ao32 t176.length co32, .slice Ao33 t179.length co33] 39 (0, 0)) (by (with_reducible repeat (first | refine blk_drewN ?_ _ | refine blk_drew ?_ | refine blk_alloc ?_ _)); refine blk_put (cs := #[.int .u8 t173, .int .u8 t174, .int .u32 t175, .slice Ao32 t176.length co32, .slice none 0 0]) ?_ 4 _ rfl; (with_reducible repeat (first | refine blk_drewN ?_ _ | refine blk_drew ?_ | refine blk_alloc ?_ _)); refine blk_put (cs := #[.int .u8 t173, .int .u8 t174, .int .u32 t175, .slice none 0 0, .slice none 0 0]) ?_ 3 _ rfl; (with_reducible repeat (first | refine blk_drewN ?_ _ | refine blk_drew ?_ | refine blk_alloc ?_ _)); refine blk_put (cs := #[.int .u8 t173, .int .u8 t174, .int .u32 0, .slice none 0 0, .slice none 0 0]) ?_ 2 _ rfl; (with_reducible repeat (first | refine blk_drewN ?_ _ | refine blk_drew ?_ | refine blk_alloc ?_ _)); refine blk_put (cs := #[.int .u8 t173, .int .u8 0, .int .u32 0, .slice none 0 0, .slice none 0 0]) ?_ 1 _ rfl; (with_reducible repeat (first | refine blk_drewN ?_ _ | refine blk_drew ?_ | refine blk_alloc ?_ _)); refine blk_put (cs := #[.int .u8 0, .int .u8 0, .int .u32 0, .slice none 0 0, .slice none 0 0]) ?_ 0 _ rfl; (with_reducible repeat (first | refine blk_drewN ?_ _ | refine blk_drew ?_ | refine blk_alloc ?_ _)); exact BK182.out) k_ hk_.2.1)⟩)) (below_size (by repeat (first | (with_reducible first | exact HB.out | apply below_alloc | apply pw_below_drewN | apply below_drew1 | refine below_set ?_ GE182.out) | exact HB.out))))
              have n5_ := Aside0.mk (Kd.N_lower (Kd.N_mono (ok' := fun k_ => some k_ ≠ (v187 : Value).ownBlock ∧ some k_ ≠ (.slice Ao27 t167.length co27 : Value).ownBlock ∧ some k_ ≠ (.slice Ao28 t170.length co28 : Value).ownBlock ∧ some k_ ≠ (.slice Ao32 t176.length co32 : Value).ownBlock ∧ k_ ≠ gb182) (Kd.R_N (Kd.R_bound (Kd.R_apart' ho1 (Kd.R_typed ho0) (by decide)))) (fun k_ hk_ => ⟨hk_.1.2, (Kd.fresh' (Kd.N_lt (by (with_reducible repeat (first | apply Kd.N_alloc | apply Kd.N_drewN | apply Kd.N_drew)); exact (Kd.N_mono (Kd.N_far (p := ⟨gb182, 4, none⟩) (Kd.N_far (p := ⟨gb182, 3, none⟩) (Kd.N_far (p := ⟨gb182, 2, none⟩) (Kd.N_far (p := ⟨gb182, 1, none⟩) (Kd.N_far (p := ⟨gb182, 0, none⟩) (Kd.N_mono HO169.out (fun k_ hk => (⟨hk, hk.2⟩ : _ ∧ k_ ≠ gb182))) (fun _ hk => hk.2) (.int .u8 t173)) (fun _ hk => hk.2) (.int .u8 t174)) (fun _ hk => hk.2) (.int .u32 t175)) (fun _ hk => hk.2) (.slice Ao32 t176.length co32)) (fun _ hk => hk.2) (.slice Ao33 t179.length co33)) (fun _ h_ => h_.1)))) k_ hk_.2.1), (Kd.fresh' (Kd.N_lt (by (with_reducible repeat (first | apply Kd.N_alloc | apply Kd.N_drewN | apply Kd.N_drew)); exact (Kd.N_mono (Kd.N_far (p := ⟨gb182, 4, none⟩) (Kd.N_far (p := ⟨gb182, 3, none⟩) (Kd.N_far (p := ⟨gb182, 2, none⟩) (Kd.N_far (p := ⟨gb182, 1, none⟩) (Kd.N_far (p := ⟨gb182, 0, none⟩) (Kd.N_mono HO172.out (fun k_ hk => (⟨hk, hk.2⟩ : _ ∧ k_ ≠ gb182))) (fun _ hk => hk.2) (.int .u8 t173)) (fun _ hk => hk.2) (.int .u8 t174)) (fun _ hk => hk.2) (.int .u32 t175)) (fun _ hk => hk.2) (.slice Ao32 t176.length co32)) (fun _ hk => hk.2) (.slice Ao33 t179.length co33)) (fun _ h_ => h_.1)))) k_ hk_.2.1), (Kd.fresh' (Kd.N_lt (by (with_reducible repeat (first | apply Kd.N_alloc | apply Kd.N_drewN | apply Kd.N_drew)); exact (Kd.N_mono (Kd.N_far (p := ⟨gb182, 4, none⟩) (Kd.N_far (p := ⟨gb182, 3, none⟩) (Kd.N_far (p := ⟨gb182, 2, none⟩) (Kd.N_far (p := ⟨gb182, 1, none⟩) (Kd.N_far (p := ⟨gb182, 0, none⟩) (Kd.N_mono HO178.out (fun k_ hk => (⟨hk, hk.2⟩ : _ ∧ k_ ≠ gb182))) (fun _ hk => hk.2) (.int .u8 t173)) (fun _ hk => hk.2) (.int .u8 t174)) (fun _ hk => hk.2) (.int .u32 t175)) (fun _ hk => hk.2) (.slice Ao32 t176.length co32)) (fun _ hk => hk.2) (.slice Ao33 t179.length co33)) (fun _ h_ => h_.1)))) k_ hk_.2.1), (Kd.freshB (g := gb182) (o := .cells #[.int .u8 t173, .int .u8 t174, .int .u32 t175, .slice Ao32 t176.length co32, .slice Ao33 t179.length co33] 39 (0, 0)) (by (with_reducible repeat (first | refine blk_drewN ?_ _ | refine blk_drew ?_ | refine blk_alloc ?_ _)); refine blk_put (cs := #[.int .u8 t173, .int .u8 t174, .int .u32 t175, .slice Ao32 t176.length co32, .slice none 0 0]) ?_ 4 _ rfl; (with_reducible repeat (first | refine blk_drewN ?_ _ | refine blk_drew ?_ | refine blk_alloc ?_ _)); refine blk_put (cs := #[.int .u8 t173, .int .u8 t174, .int .u32 t175, .slice none 0 0, .slice none 0 0]) ?_ 3 _ rfl; (with_reducible repeat (first | refine blk_drewN ?_ _ | refine blk_drew ?_ | refine blk_alloc ?_ _)); refine blk_put (cs := #[.int .u8 t173, .int .u8 t174, .int .u32 0, .slice none 0 0, .slice none 0 0]) ?_ 2 _ rfl; (with_reducible repeat (first | refine blk_drewN ?_ _ | refine blk_drew ?_ | refine blk_alloc ?_ _)); refine blk_put (cs := #[.int .u8 t173, .int .u8 0, .int .u32 0, .slice none 0 0, .slice none 0 0]) ?_ 1 _ rfl; (with_reducible repeat (first | refine blk_drewN ?_ _ | refine blk_drew ?_ | refine blk_alloc ?_ _)); refine blk_put (cs := #[.int .u8 0, .int .u8 0, .int .u32 0, .slice none 0 0, .slice none 0 0]) ?_ 0 _ rfl; (with_reducible repeat (first | refine blk_drewN ?_ _ | refine blk_drew ?_ | refine blk_alloc ?_ _)); exact BK182.out) k_ hk_.2.1)⟩)) (below_size (by repeat (first | (with_reducible first | exact HB.out | apply below_alloc | apply pw_below_drewN | apply below_drew1 | refine below_set ?_ GE182.out) | exact HB.out))))
              have n6_ := Aside0.mk (blk_below (g := gb182) (o := .cells #[.int .u8 t173, .int .u8 t174, .int .u32 t175, .slice Ao32 t176.length co32, .slice Ao33 t179.length co33] 39 (0, 0)) (by (with_reducible repeat (first | refine blk_drewN ?_ _ | refine blk_drew ?_ | refine blk_alloc ?_ _)); refine blk_put (cs := #[.int .u8 t173, .int .u8 t174, .int .u32 t175, .slice Ao32 t176.length co32, .slice none 0 0]) ?_ 4 _ rfl; (with_reducible repeat (first | refine blk_drewN ?_ _ | refine blk_drew ?_ | refine blk_alloc ?_ _)); refine blk_put (cs := #[.int .u8 t173, .int .u8 t174, .int .u32 t175, .slice none 0 0, .slice none 0 0]) ?_ 3 _ rfl; (with_reducible repeat (first | refine blk_drewN ?_ _ | refine blk_drew ?_ | refine blk_alloc ?_ _)); refine blk_put (cs := #[.int .u8 t173, .int .u8 t174, .int .u32 0, .slice none 0 0, .slice none 0 0]) ?_ 2 _ rfl; (with_reducible repeat (first | refine blk_drewN ?_ _ | refine blk_drew ?_ | refine blk_alloc ?_ _)); refine blk_put (cs := #[.int .u8 t173, .int .u8 0, .int .u32 0, .slice none 0 0, .slice none 0 0]) ?_ 1 _ rfl; (with_reducible repeat (first | refine blk_drewN ?_ _ | refine blk_drew ?_ | refine blk_alloc ?_ _)); refine blk_put (cs := #[.int .u8 0, .int .u8 0, .int .u32 0, .slice none 0 0, .slice none 0 0]) ?_ 0 _ rfl; (with_reducible repeat (first | refine blk_drewN ?_ _ | refine blk_drew ?_ | refine blk_alloc ?_ _)); exact BK182.out) hb)
              have n7_ := Aside0.mk (below_step (by repeat (first | (with_reducible first | exact HB.out | apply below_alloc | apply pw_below_drewN | apply below_drew1 | refine below_set ?_ GE182.out) | exact HB.out)) hb)
              clear HO169
              clear HO172
              clear HO178
              clear HO181
              clear BK182
              clear HB
              have HO169 := n0_
              have HO172 := n1_
              have HO178 := n2_
              have HO181 := n3_
              have HO188 := n4_
              have HO191 := n5_
              have BK182 := n6_
              have HB := n7_
              clear n0_ n1_ n2_ n3_ n4_ n5_ n6_ n7_
              (try clear hb)
              (try clear hb2)
              (try clear hk)
              (try clear hi)
              (try clear ho0)
              (try clear ho1)
              obtain ⟨Ao35, co35, eo35⟩ := Kd.N_slice HO188.out
              subst eo35
              obtain ⟨Ao36, co36, eo36⟩ := Kd.N_slice HO191.out
              subst eo36
              go_upto_region 9 with (fail)
              go_at_call 10
              (refine (spec_WithField.calls kj7 t183 t184 t185 (fun k_ => (some k_ ≠ (.slice Ao36 t189.length co36 : Value).ownBlock ∧ (some k_ ≠ (.slice Ao27 t167.length co27 : Value).ownBlock ∧ (some k_ ≠ (.slice Ao28 t170.length co28 : Value).ownBlock ∧ (some k_ ≠ (.slice Ao32 t176.length co32 : Value).ownBlock ∧ k_ ≠ gb182))))) _ _ t186 (fun k_ => (some k_ ≠ (.slice Ao35 t186.length co35 : Value).ownBlock ∧ (some k_ ≠ (.slice Ao27 t167.length co27 : Value).ownBlock ∧ (some k_ ≠ (.slice Ao28 t170.length co28 : Value).ownBlock ∧ (some k_ ≠ (.slice Ao32 t176.length co32 : Value).ownBlock ∧ k_ ≠ gb182))))) _ _ t189 3 115 0 a2 (fun k_ => False) _ _ ([] : List (S27)) t192 t193 t194 t195 t198 _ ?side1 ?side2 ?side3 A22.out).mono ?_)
              (case side1 => exact Kd.N_V (HO188.out))
              (case side2 => exact Kd.N_V (HO191.out))
              (case side3 => exact Kd.V_nil _ _ _ _ _)
              rintro e w37 ⟨v196, v199, rfl, ho0, ho1, hb⟩
              have n0_ := Aside0.mk (Kd.N_elder' (by (with_reducible repeat (first | apply Kd.N_alloc | apply Kd.N_drewN | apply Kd.N_drew)); exact HO169.out) (Kd.N_base ho0) hb)
              have n1_ := Aside0.mk (Kd.N_elder' (by (with_reducible repeat (first | apply Kd.N_alloc | apply Kd.N_drewN | apply Kd.N_drew)); exact HO172.out) (Kd.N_base ho0) hb)
              have n2_ := Aside0.mk (Kd.N_elder' (by (with_reducible repeat (first | apply Kd.N_alloc | apply Kd.N_drewN | apply Kd.N_drew)); exact HO178.out) (Kd.N_base ho0) hb)
              have n3_ := Aside0.mk (Kd.V_elder' (by (with_reducible repeat (first | apply Kd.V_alloc | apply Kd.V_drewN | apply Kd.V_drew)); exact HO181.out) (Kd.N_base ho0) hb)
              have n4_ := Aside0.mk (Kd.N_elder' (by (with_reducible repeat (first | apply Kd.N_alloc | apply Kd.N_drewN | apply Kd.N_drew)); exact HO188.out) (Kd.N_base ho0) hb)
              have n5_ := Aside0.mk (Kd.N_elder' (by (with_reducible repeat (first | apply Kd.N_alloc | apply Kd.N_drewN | apply Kd.N_drew)); exact HO191.out) (Kd.N_base ho0) hb)
              have n6_ := Aside0.mk (Kd.N_lower (Kd.N_mono (ok' := fun k_ => some k_ ≠ (.slice Ao27 t167.length co27 : Value).ownBlock ∧ some k_ ≠ (.slice Ao28 t170.length co28 : Value).ownBlock ∧ some k_ ≠ (.slice Ao32 t176.length co32 : Value).ownBlock ∧ k_ ≠ gb182) ho0 (fun k_ hk_ => ⟨Or.elim hk_ (fun hs_ => Or.elim hs_ (fun hs_ => hs_.2.1) (fun hs_ => Or.elim hs_ (fun hs_ => hs_.2.1) (fun hs_ => (hs_).elim))) (fun hn_ => (Kd.fresh' (Kd.N_lt (by (with_reducible repeat (first | apply Kd.N_alloc | apply Kd.N_drewN | apply Kd.N_drew)); exact HO169.out)) k_ hn_)), Or.elim hk_ (fun hs_ => Or.elim hs_ (fun hs_ => hs_.2.2.1) (fun hs_ => Or.elim hs_ (fun hs_ => hs_.2.2.1) (fun hs_ => (hs_).elim))) (fun hn_ => (Kd.fresh' (Kd.N_lt (by (with_reducible repeat (first | apply Kd.N_alloc | apply Kd.N_drewN | apply Kd.N_drew)); exact HO172.out)) k_ hn_)), Or.elim hk_ (fun hs_ => Or.elim hs_ (fun hs_ => hs_.2.2.2.1) (fun hs_ => Or.elim hs_ (fun hs_ => hs_.2.2.2.1) (fun hs_ => (hs_).elim))) (fun hn_ => (Kd.fresh' (Kd.N_lt (by (with_reducible repeat (first | apply Kd.N_alloc | apply Kd.N_drewN | apply Kd.N_drew)); exact HO178.out)) k_ hn_)), Or.elim hk_ (fun hs_ => Or.elim hs_ (fun hs_ => hs_.2.2.2.2) (fun hs_ => Or.elim hs_ (fun hs_ => hs_.2.2.2.2) (fun hs_ => (hs_).elim))) (fun hn_ => (Kd.freshB (g := gb182) (o := .cells #[.int .u8 t173, .int .u8 t174, .int .u32 t175, .slice Ao32 t176.length co32, .slice Ao33 t179.length co33] 39 (0, 0)) (by (with_reducible repeat (first | refine blk_drewN ?_ _ | refine blk_drew ?_ | refine blk_alloc ?_ _)); exact BK182.out) k_ hn_))⟩)) (below_size (by repeat (first | (with_reducible first | exact HB.out | apply below_alloc | apply pw_below_drewN | apply below_drew1 | refine below_set ?_ GE182.out) | exact HB.out))))
              have n7_ := Aside0.mk (Kd.V_lower (Kd.V_mono (ok' := fun k_ => some k_ ≠ (v196 : Value).ownBlock ∧ some k_ ≠ (.slice Ao27 t167.length co27 : Value).ownBlock ∧ some k_ ≠ (.slice Ao28 t170.length co28 : Value).ownBlock ∧ some k_ ≠ (.slice Ao32 t176.length co32 : Value).ownBlock ∧ k_ ≠ gb182) ho1 (fun k_ hk_ => ⟨hk_.2, Or.elim hk_.1 (fun hs_ => Or.elim hs_ (fun hs_ => hs_.2.1) (fun hs_ => Or.elim hs_ (fun hs_ => hs_.2.1) (fun hs_ => (hs_).elim))) (fun hn_ => (Kd.fresh' (Kd.N_lt (by (with_reducible repeat (first | apply Kd.N_alloc | apply Kd.N_drewN | apply Kd.N_drew)); exact HO169.out)) k_ hn_)), Or.elim hk_.1 (fun hs_ => Or.elim hs_ (fun hs_ => hs_.2.2.1) (fun hs_ => Or.elim hs_ (fun hs_ => hs_.2.2.1) (fun hs_ => (hs_).elim))) (fun hn_ => (Kd.fresh' (Kd.N_lt (by (with_reducible repeat (first | apply Kd.N_alloc | apply Kd.N_drewN | apply Kd.N_drew)); exact HO172.out)) k_ hn_)), Or.elim hk_.1 (fun hs_ => Or.elim hs_ (fun hs_ => hs_.2.2.2.1) (fun hs_ => Or.elim hs_ (fun hs_ => hs_.2.2.2.1) (fun hs_ => (hs_).elim))) (fun hn_ => (Kd.fresh' (Kd.N_lt (by (with_reducible repeat (first | apply Kd.N_alloc | apply Kd.N_drewN | apply Kd.N_drew)); exact HO178.out)) k_ hn_)), Or.elim hk_.1 (fun hs_ => Or.elim hs_ (fun hs_ => hs_.2.2.2.2) (fun hs_ => Or.elim hs_ (fun hs_ => hs_.2.2.2.2) (fun hs_ => (hs_).elim))) (fun hn_ => (Kd.freshB (g := gb182) (o := .cells #[.int .u8 t173, .int .u8 t174, .int .u32 t175, .slice Ao32 t176.length co32, .slice Ao33 t179.length co33] 39 (0, 0)) (by (with_reducible repeat (first | refine blk_drewN ?_ _ | refine blk_drew ?_ | refine blk_alloc ?_ _)); exact BK182.out) k_ hn_))⟩)) (below_size (by repeat (first | (with_reducible first | exact HB.out | apply below_alloc | apply pw_below_drewN | apply below_drew1 | refine below_set ?_ GE182.out) | exact HB.out))))
              have n8_ := Aside0.mk (blk_below (g := gb182) (o := .cells #[.int .u8 t173, .int .u8 t174, .int .u32 t175, .slice Ao32 t176.length co32, .slice Ao33 t179.length co33] 39 (0, 0)) (by (with_reducible repeat (first | refine blk_drewN ?_ _ | refine blk_drew ?_ | refine blk_alloc ?_ _)); exact BK182.out) hb)
              have n9_ := Aside0.mk (below_step (by repeat (first | (with_reducible first | exact HB.out | apply below_alloc | apply pw_below_drewN | apply below_drew1 | refine below_set ?_ GE182.out) | exact HB.out)) hb)
              clear HO169
              clear HO172
              clear HO178
              clear HO181
              clear HO188
              clear HO191
              clear BK182
              clear HB
              have HO169 := n0_
              have HO172 := n1_
              have HO178 := n2_
              have HO181 := n3_
              have HO188 := n4_
              have HO191 := n5_
              have HO197 := n6_
              have HO200 := n7_
              have BK182 := n8_
              have HB := n9_
              clear n0_ n1_ n2_ n3_ n4_ n5_ n6_ n7_ n8_ n9_
              (try clear hb)
              (try clear hb2)
              (try clear hk)
              (try clear hi)
              (try clear ho0)
              (try clear ho1)
              go_upto_region 9 with (((with_reducible refine gate_dst (N := 10) rfl ?_); (try (refine gate_guard (by rfl) ?_; dsimp only)); refine box_event ?hg (N := 10) ?hd (cs := #[.int .u8 0, .int .u8 0, .int .u32 0, .slice none 0 0, .slice none 0 0]) (t := 39) ?hr ?_; (case hd => rfl); (case hg => rfl); (case hr => first | (go_simp; done) | (go_simp; rfl)); intro gb201 hg w38 hbox hb; have n0_ := Aside0.mk (Kd.N_below (Kd.N_elderB (by (with_reducible repeat (first | apply Kd.N_alloc | apply Kd.N_drewN | apply Kd.N_drew)); exact HO169.out) gb201 (Nat.le_of_eq hg.symm)) hb); have n1_ := Aside0.mk (Kd.N_below (Kd.N_elderB (by (with_reducible repeat (first | apply Kd.N_alloc | apply Kd.N_drewN | apply Kd.N_drew)); exact HO172.out) gb201 (Nat.le_of_eq hg.symm)) hb); have n2_ := Aside0.mk (Kd.N_below (Kd.N_elderB (by (with_reducible repeat (first | apply Kd.N_alloc | apply Kd.N_drewN | apply Kd.N_drew)); exact HO178.out) gb201 (Nat.le_of_eq hg.symm)) hb); have n3_ := Aside0.mk (Kd.V_below (Kd.V_elderB (by (with_reducible repeat (first | apply Kd.V_alloc | apply Kd.V_drewN | apply Kd.V_drew)); exact HO181.out) gb201 (Nat.le_of_eq hg.symm)) hb); have n4_ := Aside0.mk (Kd.N_below (Kd.N_elderB (by (with_reducible repeat (first | apply Kd.N_alloc | apply Kd.N_drewN | apply Kd.N_drew)); exact HO188.out) gb201 (Nat.le_of_eq hg.symm)) hb); have n5_ := Aside0.mk (Kd.N_below (Kd.N_elderB (by (with_reducible repeat (first | apply Kd.N_alloc | apply Kd.N_drewN | apply Kd.N_drew)); exact HO191.out) gb201 (Nat.le_of_eq hg.symm)) hb); have n6_ := Aside0.mk (Kd.N_below (Kd.N_elderB (by (with_reducible repeat (first | apply Kd.N_alloc | apply Kd.N_drewN | apply Kd.N_drew)); exact HO197.out) gb201 (Nat.le_of_eq hg.symm)) hb); have n7_ := Aside0.mk (Kd.V_below (Kd.V_elderB (by (with_reducible repeat (first | apply Kd.V_alloc | apply Kd.V_drewN | apply Kd.V_drew)); exact HO200.out) gb201 (Nat.le_of_eq hg.symm)) hb); have n8_ := Aside0.mk (blk_below (g := gb182) (o := .cells #[.int .u8 t173, .int .u8 t174, .int .u32 t175, .slice Ao32 t176.length co32, .slice Ao33 t179.length co33] 39 (0, 0)) (by (with_reducible repeat (first | refine blk_drewN ?_ _ | refine blk_drew ?_ | refine blk_alloc ?_ _)); exact BK182.out) hb); have n9_ := Aside0.mk (below_step (by repeat (first | (with_reducible first | exact HB.out | apply below_alloc | apply pw_below_drewN | apply below_drew1 | refine below_set ?_ GE182.out) | exact HB.out)) hb); have n10_ := Aside0.mk (hbox); have n11_ := Aside0.mk ((by rw [hg]; exact (below_size (by repeat (first | (with_reducible first | exact HB.out | apply below_alloc | apply pw_below_drewN | apply below_drew1 | refine below_set ?_ GE182.out) | exact HB.out))) : w.heap.size ≤ gb201)); have n12_ := Aside0.mk ((by rw [hg]; exact (below_size (by repeat (first | (with_reducible first | exact HB.out | apply below_alloc | apply pw_below_drewN | apply below_drew1 | refine below_set ?_ GE182.out) | exact HB.out))) : w.heap.size ≤ gb201)); have n13_ := Aside0.mk ((by rw [hg]; exact Nat.ne_of_lt (blk_lt (g := gb182) (o := .cells #[.int .u8 t173, .int .u8 t174, .int .u32 t175, .slice Ao32 t176.length co32, .slice Ao33 t179.length co33] 39 (0, 0)) (by (with_reducible repeat (first | refine blk_drewN ?_ _ | refine blk_drew ?_ | refine blk_alloc ?_ _)); exact BK182.out)) : gb182 ≠ gb201)); have n14_ := Aside0.mk ((by rw [hg]; exact Nat.ne_of_gt (blk_lt (g := gb182) (o := .cells #[.int .u8 t173, .int .u8 t174, .int .u32 t175, .slice Ao32 t176.length co32, .slice Ao33 t179.length co33] 39 (0, 0)) (by (with_reducible repeat (first | refine blk_drewN ?_ _ | refine blk_drew ?_ | refine blk_alloc ?_ _)); exact BK182.out)) : gb201 ≠ gb182)); clear HO169; clear HO172; clear HO178; clear HO181; clear HO188; clear HO191; clear HO197; clear HO200; clear BK182; clear HB; have HO169 := n0_; have HO172 := n1_; have HO178 := n2_; have HO181 := n3_; have HO188 := n4_; have HO191 := n5_; have HO197 := n6_; have HO200 := n7_; have BK182 := n8_; have HB := n9_; have BK201 := n10_; have GW201 := n11_; have GE201 := n12_; have NB182_201 := n13_; have NB201_182 := n14_; clear n0_ n1_ n2_ n3_ n4_ n5_ n6_ n7_ n8_ n9_ n10_ n11_ n12_ n13_ n14_; clear hb hbox hg; have hnb39 := NB201_182.out; have hnc39 := NB182_201.out; have hcz40_0 : w38.cell? ⟨gb201, 0, none⟩ = some (.int .u8 0) := (blk_cell BK201.out 0).trans rfl; have hcz40_1 : w38.cell? ⟨gb201, 1, none⟩ = some (.int .u8 0) := (blk_cell BK201.out 1).trans rfl; have hcz40_2 : w38.cell? ⟨gb201, 2, none⟩ = some (.int .u32 0) := (blk_cell BK201.out 2).trans rfl; have hcz40_3 : w38.cell? ⟨gb201, 3, none⟩ = some (.slice none 0 0) := (blk_cell BK201.out 3).trans rfl; have hcz40_4 : w38.cell? ⟨gb201, 4, none⟩ = some (.slice none 0 0) := (blk_cell BK201.out 4).trans rfl; have hfz40_0 := blk_frozen BK201.out 0; have hfz40_1 := blk_frozen BK201.out 1; have hfz40_2 := blk_frozen BK201.out 2; have hfz40_3 := blk_frozen BK201.out 3; have hfz40_4 := blk_frozen BK201.out 4; obtain ⟨Ao41, co41, eo41⟩ := Kd.N_slice HO197.out; subst eo41; obtain ⟨Ao42, co42, eo42⟩ := Kd.V_slice HO200.out; subst eo42; have hcz43_0 : w38.cell? ⟨gb182, 0, none⟩ = some (.int .u8 t173) := (blk_cell BK182.out 0).trans rfl; have hcz43_1 : w38.cell? ⟨gb182, 1, none⟩ = some (.int .u8 t174) := (blk_cell BK182.out 1).trans rfl; have hcz43_2 : w38.cell? ⟨gb182, 2, none⟩ = some (.int .u32 t175) := (blk_cell BK182.out 2).trans rfl; have hcz43_3 : w38.cell? ⟨gb182, 3, none⟩ = some (.slice Ao32 t176.length co32) := (blk_cell BK182.out 3).trans rfl; have hcz43_4 : w38.cell? ⟨gb182, 4, none⟩ = some (.slice Ao33 t179.length co33) := (blk_cell BK182.out 4).trans rfl; have hfz43_0 := blk_frozen BK182.out 0; have hfz43_1 := blk_frozen BK182.out 1; have hfz43_2 := blk_frozen BK182.out 2; have hfz43_3 := blk_frozen BK182.out 3; have hfz43_4 := blk_frozen BK182.out 4))
              go_upto_region 9 with ((go_at_call 12; (with_reducible refine (Given.MsEncode.calls t173 t174 t175 _ _ t176 _ _ t179 a3 t202 t203 _ ?side1 ?side2 ?side3 ?side4 A23.out).mono ?_); (case side1 => refine (Kd.N_reads' (e := 43) (base := w.heap.size) (ok := fun k_ => (((((True ∧ k_ ≠ gb182) ∧ some k_ ≠ (.slice Ao35 t186.length co35 : Value).ownBlock) ∧ some k_ ≠ (.slice Ao36 t189.length co36 : Value).ownBlock) ∧ some k_ ≠ (.slice Ao41 t195.length co41 : Value).ownBlock) ∧ k_ ≠ gb201)) (n := t176.length) (c := co32) ?_).2.2; exact (by (with_reducible repeat (first | apply Kd.N_alloc | apply Kd.N_drewN | apply Kd.N_drew)); exact (Kd.N_mono (Kd.N_far (p := ⟨gb201, 4, none⟩) (Kd.N_far (p := ⟨gb201, 3, none⟩) (Kd.N_far (p := ⟨gb201, 2, none⟩) (Kd.N_far (p := ⟨gb201, 1, none⟩) (Kd.N_far (p := ⟨gb201, 0, none⟩) (Kd.N_mono HO178.out (fun k_ hk => (⟨hk, hk.2⟩ : _ ∧ k_ ≠ gb201))) (fun _ hk => hk.2) (.int .u8 t192)) (fun _ hk => hk.2) (.int .u8 t193)) (fun _ hk => hk.2) (.int .u32 t194)) (fun _ hk => hk.2) (.slice Ao41 t195.length co41)) (fun _ hk => hk.2) (.slice Ao42 t198.length co42)) (fun _ h_ => h_.1)))); (case side2 => exact (Kd.N_reads' HO178.out).2.1); (case side3 => refine (Kd.V_reads' (e := 27) (base := w.heap.size) (ok := fun k_ => (((((some k_ ≠ (.slice Ao32 t176.length co32 : Value).ownBlock ∧ k_ ≠ gb182) ∧ some k_ ≠ (.slice Ao35 t186.length co35 : Value).ownBlock) ∧ some k_ ≠ (.slice Ao36 t189.length co36 : Value).ownBlock) ∧ some k_ ≠ (.slice Ao41 t195.length co41 : Value).ownBlock) ∧ k_ ≠ gb201)) (n := t179.length) (c := co33) ?_).2.2; exact (by (with_reducible repeat (first | apply Kd.V_alloc | apply Kd.V_drewN | apply Kd.V_drew)); exact (Kd.V_mono (Kd.V_far (p := ⟨gb201, 4, none⟩) (Kd.V_far (p := ⟨gb201, 3, none⟩) (Kd.V_far (p := ⟨gb201, 2, none⟩) (Kd.V_far (p := ⟨gb201, 1, none⟩) (Kd.V_far (p := ⟨gb201, 0, none⟩) (Kd.V_mono HO181.out (fun k_ hk => (⟨hk, hk.2⟩ : _ ∧ k_ ≠ gb201))) (fun _ hk => hk.2) (.int .u8 t192)) (fun _ hk => hk.2) (.int .u8 t193)) (fun _ hk => hk.2) (.int .u32 t194)) (fun _ hk => hk.2) (.slice Ao41 t195.length co41)) (fun _ hk => hk.2) (.slice Ao42 t198.length co42)) (fun _ h_ => h_.1)))); (case side4 => exact (Kd.V_reads' HO181.out).2.1); rintro e w44 ⟨rfl, hb⟩; have n0_ := Aside0.mk (Kd.N_below (by (with_reducible repeat (first | apply Kd.N_alloc | apply Kd.N_drewN | apply Kd.N_drew)); exact (Kd.N_mono (Kd.N_far (p := ⟨gb201, 4, none⟩) (Kd.N_far (p := ⟨gb201, 3, none⟩) (Kd.N_far (p := ⟨gb201, 2, none⟩) (Kd.N_far (p := ⟨gb201, 1, none⟩) (Kd.N_far (p := ⟨gb201, 0, none⟩) (Kd.N_mono HO169.out (fun k_ hk => (⟨hk, hk.2⟩ : _ ∧ k_ ≠ gb201))) (fun _ hk => hk.2) (.int .u8 t192)) (fun _ hk => hk.2) (.int .u8 t193)) (fun _ hk => hk.2) (.int .u32 t194)) (fun _ hk => hk.2) (.slice Ao41 t195.length co41)) (fun _ hk => hk.2) (.slice Ao42 t198.length co42)) (fun _ h_ => h_.1))) hb); have n1_ := Aside0.mk (Kd.N_below (by (with_reducible repeat (first | apply Kd.N_alloc | apply Kd.N_drewN | apply Kd.N_drew)); exact (Kd.N_mono (Kd.N_far (p := ⟨gb201, 4, none⟩) (Kd.N_far (p := ⟨gb201, 3, none⟩) (Kd.N_far (p := ⟨gb201, 2, none⟩) (Kd.N_far (p := ⟨gb201, 1, none⟩) (Kd.N_far (p := ⟨gb201, 0, none⟩) (Kd.N_mono HO172.out (fun k_ hk => (⟨hk, hk.2⟩ : _ ∧ k_ ≠ gb201))) (fun _ hk => hk.2) (.int .u8 t192)) (fun _ hk => hk.2) (.int .u8 t193)) (fun _ hk => hk.2) (.int .u32 t194)) (fun _ hk => hk.2) (.slice Ao41 t195.length co41)) (fun _ hk => hk.2) (.slice Ao42 t198.length co42)) (fun _ h_ => h_.1))) hb); have n2_ := Aside0.mk (Kd.N_below (by (with_reducible repeat (first | apply Kd.N_alloc | apply Kd.N_drewN | apply Kd.N_drew)); exact (Kd.N_mono (Kd.N_far (p := ⟨gb201, 4, none⟩) (Kd.N_far (p := ⟨gb201, 3, none⟩) (Kd.N_far (p := ⟨gb201, 2, none⟩) (Kd.N_far (p := ⟨gb201, 1, none⟩) (Kd.N_far (p := ⟨gb201, 0, none⟩) (Kd.N_mono HO178.out (fun k_ hk => (⟨hk, hk.2⟩ : _ ∧ k_ ≠ gb201))) (fun _ hk => hk.2) (.int .u8 t192)) (fun _ hk => hk.2) (.int .u8 t193)) (fun _ hk => hk.2) (.int .u32 t194)) (fun _ hk => hk.2) (.slice Ao41 t195.length co41)) (fun _ hk => hk.2) (.slice Ao42 t198.length co42)) (fun _ h_ => h_.1))) hb); have n3_ := Aside0.mk (Kd.V_below (by (with_reducible repeat (first | apply Kd.V_alloc | apply Kd.V_drewN | apply Kd.V_drew)); exact (Kd.V_mono (Kd.V_far (p := ⟨gb201, 4, none⟩) (Kd.V_far (p := ⟨gb201, 3, none⟩) (Kd.V_far (p := ⟨gb201, 2, none⟩) (Kd.V_far (p := ⟨gb201, 1, none⟩) (Kd.V_far (p := ⟨gb201, 0, none⟩) (Kd.V_mono HO181.out (fun k_ hk => (⟨hk, hk.2⟩ : _ ∧ k_ ≠ gb201))) (fun _ hk => hk.2) (.int .u8 t192)) (fun _ hk => hk.2) (.int .u8 t193)) (fun _ hk => hk.2) (.int .u32 t194)) (fun _ hk => hk.2) (.slice Ao41 t195.length co41)) (fun _ hk => hk.2) (.slice Ao42 t198.length co42)) (fun _ h_ => h_.1))) hb); have n4_ := Aside0.mk (Kd.N_below (by (with_reducible repeat (first | apply Kd.N_alloc | apply Kd.N_drewN | apply Kd.N_drew)); exact (Kd.N_mono (Kd.N_far (p := ⟨gb201, 4, none⟩) (Kd.N_far (p := ⟨gb201, 3, none⟩) (Kd.N_far (p := ⟨gb201, 2, none⟩) (Kd.N_far (p := ⟨gb201, 1, none⟩) (Kd.N_far (p := ⟨gb201, 0, none⟩) (Kd.N_mono HO188.out (fun k_ hk => (⟨hk, hk.2⟩ : _ ∧ k_ ≠ gb201))) (fun _ hk => hk.2) (.int .u8 t192)) (fun _ hk => hk.2) (.int .u8 t193)) (fun _ hk => hk.2) (.int .u32 t194)) (fun _ hk => hk.2) (.slice Ao41 t195.length co41)) (fun _ hk => hk.2) (.slice Ao42 t198.length co42)) (fun _ h_ => h_.1))) hb); have n5_ := Aside0.mk (Kd.N_below (by (with_reducible repeat (first | apply Kd.N_alloc | apply Kd.N_drewN | apply Kd.N_drew)); exact (Kd.N_mono (Kd.N_far (p := ⟨gb201, 4, none⟩) (Kd.N_far (p := ⟨gb201, 3, none⟩) (Kd.N_far (p := ⟨gb201, 2, none⟩) (Kd.N_far (p := ⟨gb201, 1, none⟩) (Kd.N_far (p := ⟨gb201, 0, none⟩) (Kd.N_mono HO191.out (fun k_ hk => (⟨hk, hk.2⟩ : _ ∧ k_ ≠ gb201))) (fun _ hk => hk.2) (.int .u8 t192)) (fun _ hk => hk.2) (.int .u8 t193)) (fun _ hk => hk.2) (.int .u32 t194)) (fun _ hk => hk.2) (.slice Ao41 t195.length co41)) (fun _ hk => hk.2) (.slice Ao42 t198.length co42)) (fun _ h_ => h_.1))) hb); have n6_ := Aside0.mk (Kd.N_below (by (with_reducible repeat (first | apply Kd.N_alloc | apply Kd.N_drewN | apply Kd.N_drew)); exact (Kd.N_mono (Kd.N_far (p := ⟨gb201, 4, none⟩) (Kd.N_far (p := ⟨gb201, 3, none⟩) (Kd.N_far (p := ⟨gb201, 2, none⟩) (Kd.N_far (p := ⟨gb201, 1, none⟩) (Kd.N_far (p := ⟨gb201, 0, none⟩) (Kd.N_mono HO197.out (fun k_ hk => (⟨hk, hk.2⟩ : _ ∧ k_ ≠ gb201))) (fun _ hk => hk.2) (.int .u8 t192)) (fun _ hk => hk.2) (.int .u8 t193)) (fun _ hk => hk.2) (.int .u32 t194)) (fun _ hk => hk.2) (.slice Ao41 t195.length co41)) (fun _ hk => hk.2) (.slice Ao42 t198.length co42)) (fun _ h_ => h_.1))) hb); have n7_ := Aside0.mk (Kd.V_below (by (with_reducible repeat (first | apply Kd.V_alloc | apply Kd.V_drewN | apply Kd.V_drew)); exact (Kd.V_mono (Kd.V_far (p := ⟨gb201, 4, none⟩) (Kd.V_far (p := ⟨gb201, 3, none⟩) (Kd.V_far (p := ⟨gb201, 2, none⟩) (Kd.V_far (p := ⟨gb201, 1, none⟩) (Kd.V_far (p := ⟨gb201, 0, none⟩) (Kd.V_mono HO200.out (fun k_ hk => (⟨hk, hk.2⟩ : _ ∧ k_ ≠ gb201))) (fun _ hk => hk.2) (.int .u8 t192)) (fun _ hk => hk.2) (.int .u8 t193)) (fun _ hk => hk.2) (.int .u32 t194)) (fun _ hk => hk.2) (.slice Ao41 t195.length co41)) (fun _ hk => hk.2) (.slice Ao42 t198.length co42)) (fun _ h_ => h_.1))) hb); have n8_ := Aside0.mk (blk_below (g := gb182) (o := .cells #[.int .u8 t173, .int .u8 t174, .int .u32 t175, .slice Ao32 t176.length co32, .slice Ao33 t179.length co33] 39 (0, 0)) (by (with_reducible repeat (first | refine blk_drewN ?_ _ | refine blk_drew ?_ | refine blk_alloc ?_ _)); refine blk_far ?_ NB182_201.out _; (with_reducible repeat (first | refine blk_drewN ?_ _ | refine blk_drew ?_ | refine blk_alloc ?_ _)); refine blk_far ?_ NB182_201.out _; (with_reducible repeat (first | refine blk_drewN ?_ _ | refine blk_drew ?_ | refine blk_alloc ?_ _)); refine blk_far ?_ NB182_201.out _; (with_reducible repeat (first | refine blk_drewN ?_ _ | refine blk_drew ?_ | refine blk_alloc ?_ _)); refine blk_far ?_ NB182_201.out _; (with_reducible repeat (first | refine blk_drewN ?_ _ | refine blk_drew ?_ | refine blk_alloc ?_ _)); refine blk_far ?_ NB182_201.out _; (with_reducible repeat (first | refine blk_drewN ?_ _ | refine blk_drew ?_ | refine blk_alloc ?_ _)); exact BK182.out) hb); have n9_ := Aside0.mk (blk_below (g := gb201) (o := .cells #[.int .u8 t192, .int .u8 t193, .int .u32 t194, .slice Ao41 t195.length co41, .slice Ao42 t198.length co42] 39 (0, 0)) (by (with_reducible repeat (first | refine blk_drewN ?_ _ | refine blk_drew ?_ | refine blk_alloc ?_ _)); refine blk_put (cs := #[.int .u8 t192, .int .u8 t193, .int .u32 t194, .slice Ao41 t195.length co41, .slice none 0 0]) ?_ 4 _ rfl; (with_reducible repeat (first | refine blk_drewN ?_ _ | refine blk_drew ?_ | refine blk_alloc ?_ _)); refine blk_put (cs := #[.int .u8 t192, .int .u8 t193, .int .u32 t194, .slice none 0 0, .slice none 0 0]) ?_ 3 _ rfl; (with_reducible repeat (first | refine blk_drewN ?_ _ | refine blk_drew ?_ | refine blk_alloc ?_ _)); refine blk_put (cs := #[.int .u8 t192, .int .u8 t193, .int .u32 0, .slice none 0 0, .slice none 0 0]) ?_ 2 _ rfl; (with_reducible repeat (first | refine blk_drewN ?_ _ | refine blk_drew ?_ | refine blk_alloc ?_ _)); refine blk_put (cs := #[.int .u8 t192, .int .u8 0, .int .u32 0, .slice none 0 0, .slice none 0 0]) ?_ 1 _ rfl; (with_reducible repeat (first | refine blk_drewN ?_ _ | refine blk_drew ?_ | refine blk_alloc ?_ _)); refine blk_put (cs := #[.int .u8 0, .int .u8 0, .int .u32 0, .slice none 0 0, .slice none 0 0]) ?_ 0 _ rfl; (with_reducible repeat (first | refine blk_drewN ?_ _ | refine blk_drew ?_ | refine blk_alloc ?_ _)); exact BK201.out) hb); have n10_ := Aside0.mk (below_step (by repeat (first | (with_reducible first | exact HB.out | apply below_alloc | apply pw_below_drewN | apply below_drew1 | refine below_set ?_ GE182.out | refine below_set ?_ GE201.out) | exact HB.out)) hb); clear HO169; clear HO172; clear HO178; clear HO181; clear HO188; clear HO191; clear HO197; clear HO200; clear BK182; clear BK201; clear HB; have HO169 := n0_; have HO172 := n1_; have HO178 := n2_; have HO181 := n3_; have HO188 := n4_; have HO191 := n5_; have HO197 := n6_; have HO200 := n7_; have BK182 := n8_; have BK201 := n9_; have HB := n10_; clear n0_ n1_ n2_ n3_ n4_ n5_ n6_ n7_ n8_ n9_ n10_; (try clear hb); (try clear hb2); (try clear hk); (try clear hi); have hcz45_0 : w44.cell? ⟨gb201, 0, none⟩ = some (.int .u8 t192) := (blk_cell BK201.out 0).trans rfl; have hcz45_1 : w44.cell? ⟨gb201, 1, none⟩ = some (.int .u8 t193) := (blk_cell BK201.out 1).trans rfl; have hcz45_2 : w44.cell? ⟨gb201, 2, none⟩ = some (.int .u32 t194) := (blk_cell BK201.out 2).trans rfl; have hcz45_3 : w44.cell? ⟨gb201, 3, none⟩ = some (.slice Ao41 t195.length co41) := (blk_cell BK201.out 3).trans rfl; have hcz45_4 : w44.cell? ⟨gb201, 4, none⟩ = some (.slice Ao42 t198.length co42) := (blk_cell BK201.out 4).trans rfl; have hfz45_0 := blk_frozen BK201.out 0; have hfz45_1 := blk_frozen BK201.out 1; have hfz45_2 := blk_frozen BK201.out 2; have hfz45_3 := blk_frozen BK201.out 3; have hfz45_4 := blk_frozen BK201.out 4))
              go_upto_region 9 with ((go_at_call 12; (with_reducible refine (Given.MsEncode.calls t192 t193 t194 _ _ t195 _ _ t198 a3 t204 t205 _ ?side1 ?side2 ?side3 ?side4 A24.out).mono ?_); (case side1 => repeat (first | exact (Kd.N_reads' HO197.out).2.2 | (with_reducible refine Kd.C_alloc ?_ _) | (with_reducible refine Kd.C_drewN ?_ _) | (with_reducible refine Kd.C_drew ?_))); (case side2 => exact (Kd.N_reads' HO197.out).2.1); (case side3 => repeat (first | exact (Kd.V_reads' HO200.out).2.2 | (with_reducible refine Kd.C_alloc ?_ _) | (with_reducible refine Kd.C_drewN ?_ _) | (with_reducible refine Kd.C_drew ?_))); (case side4 => exact (Kd.V_reads' HO200.out).2.1); rintro e w46 ⟨rfl, hb⟩; have n0_ := Aside0.mk (Kd.N_below (by (with_reducible repeat (first | apply Kd.N_alloc | apply Kd.N_drewN | apply Kd.N_drew)); exact HO169.out) hb); have n1_ := Aside0.mk (Kd.N_below (by (with_reducible repeat (first | apply Kd.N_alloc | apply Kd.N_drewN | apply Kd.N_drew)); exact HO172.out) hb); have n2_ := Aside0.mk (Kd.N_below (by (with_reducible repeat (first | apply Kd.N_alloc | apply Kd.N_drewN | apply Kd.N_drew)); exact HO178.out) hb); have n3_ := Aside0.mk (Kd.V_below (by (with_reducible repeat (first | apply Kd.V_alloc | apply Kd.V_drewN | apply Kd.V_drew)); exact HO181.out) hb); have n4_ := Aside0.mk (Kd.N_below (by (with_reducible repeat (first | apply Kd.N_alloc | apply Kd.N_drewN | apply Kd.N_drew)); exact HO188.out) hb); have n5_ := Aside0.mk (Kd.N_below (by (with_reducible repeat (first | apply Kd.N_alloc | apply Kd.N_drewN | apply Kd.N_drew)); exact HO191.out) hb); have n6_ := Aside0.mk (Kd.N_below (by (with_reducible repeat (first | apply Kd.N_alloc | apply Kd.N_drewN | apply Kd.N_drew)); exact HO197.out) hb); have n7_ := Aside0.mk (Kd.V_below (by (with_reducible repeat (first | apply Kd.V_alloc | apply Kd.V_drewN | apply Kd.V_drew)); exact HO200.out) hb); have n8_ := Aside0.mk (blk_below (g := gb182) (o := .cells #[.int .u8 t173, .int .u8 t174, .int .u32 t175, .slice Ao32 t176.length co32, .slice Ao33 t179.length co33] 39 (0, 0)) (by (with_reducible repeat (first | refine blk_drewN ?_ _ | refine blk_drew ?_ | refine blk_alloc ?_ _)); exact BK182.out) hb); have n9_ := Aside0.mk (blk_below (g := gb201) (o := .cells #[.int .u8 t192, .int .u8 t193, .int .u32 t194, .slice Ao41 t195.length co41, .slice Ao42 t198.length co42] 39 (0, 0)) (by (with_reducible repeat (first | refine blk_drewN ?_ _ | refine blk_drew ?_ | refine blk_alloc ?_ _)); exact BK201.out) hb); have n10_ := Aside0.mk (below_step (by repeat (first | (with_reducible first | exact HB.out | apply below_alloc | apply pw_below_drewN | apply below_drew1 | refine below_set ?_ GE182.out | refine below_set ?_ GE201.out) | exact HB.out)) hb); clear HO169; clear HO172; clear HO178; clear HO181; clear HO188; clear HO191; clear HO197; clear HO200; clear BK182; clear BK201; clear HB; have HO169 := n0_; have HO172 := n1_; have HO178 := n2_; have HO181 := n3_; have HO188 := n4_; have HO191 := n5_; have HO197 := n6_; have HO200 := n7_; have BK182 := n8_; have BK201 := n9_; have HB := n10_; clear n0_ n1_ n2_ n3_ n4_ n5_ n6_ n7_ n8_ n9_ n10_; (try clear hb); (try clear hb2); (try clear hk); (try clear hi)))
              (try simp only [Act.put, List.setIfInBounds_toArray, List.set_cons_zero, List.set_cons_succ])
              go_cut [83] (fun v83 wc => ∃ (kq : Nat) (x83_24 : Bool), v83 = .bool x83_24 ∧ Aside0 (laws_FnMsName.j2 kq a1 a2 t202 t204 x83_24 = some r) ∧ Aside0 (kq ≤ kj7) ∧ Aside0 (Kd.N k43 43 wc w.heap.size (fun k_ => some k_ ≠ ((.slice Ao41 t195.length co41) : Value).ownBlock ∧ k_ ≠ gb182 ∧ k_ ≠ gb201) (.slice Ao32 t176.length co32) t176) ∧ Aside0 (Kd.V k27 27 wc w.heap.size (fun k_ => some k_ ≠ ((.slice Ao32 t176.length co32) : Value).ownBlock ∧ some k_ ≠ ((.slice Ao41 t195.length co41) : Value).ownBlock ∧ k_ ≠ gb182 ∧ k_ ≠ gb201) (.slice Ao33 t179.length co33) t179) ∧ Aside0 (Kd.N k43 43 wc w.heap.size (fun k_ => some k_ ≠ ((.slice Ao32 t176.length co32) : Value).ownBlock ∧ k_ ≠ gb182 ∧ k_ ≠ gb201) (.slice Ao41 t195.length co41) t195) ∧ Aside0 (Kd.V k27 27 wc w.heap.size (fun k_ => some k_ ≠ ((.slice Ao32 t176.length co32) : Value).ownBlock ∧ some k_ ≠ ((.slice Ao41 t195.length co41) : Value).ownBlock ∧ k_ ≠ gb182 ∧ k_ ≠ gb201) (.slice Ao42 t198.length co42) t198) ∧ Aside0 (wc.heap[gb182]? = some (.cells #[.int .u8 t173, .int .u8 t174, .int .u32 t175, (.slice Ao32 t176.length co32), (.slice Ao33 t179.length co33)] 39 (0, 0))) ∧ Aside0 (wc.heap[gb201]? = some (.cells #[.int .u8 t192, .int .u8 t193, .int .u32 t194, (.slice Ao41 t195.length co41), (.slice Ao42 t198.length co42)] 39 (0, 0))) ∧ Aside0 (Below w.heap.size w wc))
              case first =>
                have H := HC25.out
                clear HC25
                by_cases c47 : t203 = true
                · subst c47
                  have H1 : (if t205 = true then (laws_FnMsName.j2 kj7 a1 a2 t202 t204 ((t202.size : Int) != (t204.size : Int))) else (laws_FnMsName.j2 kj7 a1 a2 t202 t204 true)) = some r := by rw [if_pos rfl] at H; exact H
                  clear H
                  have H := H1
                  clear H1
                  by_cases c48 : t205 = true
                  · subst c48
                    have H1 : (laws_FnMsName.j2 kj7 a1 a2 t202 t204 ((t202.size : Int) != (t204.size : Int))) = some r := by rw [if_pos rfl] at H; exact H
                    clear H
                    have H := H1
                    clear H1
                    have H' := Aside0.mk H
                    clear H
                    go_wp2
                    repeat (go_quiet (fail); try go_wp2)
                    go_meet
                    case rel => exact ⟨_, (((t202.size : Int) != (t204.size : Int))), (by first | rfl | (simp; done) | (simp [*]; done)), H', ⟨by have := HJ4.out; have := HJ7.out; first | omega | exact Nat.le_refl _⟩, ⟨by (with_reducible repeat (first | apply Kd.N_alloc | apply Kd.N_drewN | apply Kd.N_drew)); exact Kd.N_mono HO178.out (fun _ hk => ⟨hk.1.2, ⟨hk.1.1.1.1.2, hk.2⟩⟩)⟩, ⟨by (with_reducible repeat (first | apply Kd.V_alloc | apply Kd.V_drewN | apply Kd.V_drew)); exact Kd.V_mono HO181.out (fun _ hk => ⟨hk.1.1.1.1.1, ⟨hk.1.2, ⟨hk.1.1.1.1.2, hk.2⟩⟩⟩)⟩, ⟨by (with_reducible repeat (first | apply Kd.N_alloc | apply Kd.N_drewN | apply Kd.N_drew)); exact Kd.N_mono HO197.out (fun _ hk => ⟨hk.1.2.2.1, ⟨hk.1.2.2.2, hk.2⟩⟩)⟩, ⟨by (with_reducible repeat (first | apply Kd.V_alloc | apply Kd.V_drewN | apply Kd.V_drew)); exact Kd.V_mono HO200.out (fun _ hk => ⟨hk.1.2.2.2.1, ⟨hk.1.1, ⟨hk.1.2.2.2.2, hk.2⟩⟩⟩)⟩, ⟨by (with_reducible repeat (first | refine blk_drewN ?_ _ | refine blk_drew ?_ | refine blk_alloc ?_ _)); exact BK182.out⟩, ⟨by (with_reducible repeat (first | refine blk_drewN ?_ _ | refine blk_drew ?_ | refine blk_alloc ?_ _)); exact BK201.out⟩, ⟨by repeat (first | (with_reducible first | exact HB.out | apply below_alloc | apply pw_below_drewN | apply below_drew1 | refine below_set ?_ GE182.out | refine below_set ?_ GE201.out) | exact HB.out)⟩⟩
                  · replace c48 := Bool.eq_false_iff.mpr c48
                    subst c48
                    have H1 : (laws_FnMsName.j2 kj7 a1 a2 t202 t204 true) = some r := by rw [if_neg (show ¬ (false = true) by decide)] at H; exact H
                    clear H
                    have H := H1
                    clear H1
                    have H' := Aside0.mk H
                    clear H
                    go_wp2
                    repeat (go_quiet (fail); try go_wp2)
                    go_meet
                    case rel => exact ⟨_, (true), (by first | rfl | (simp; done) | (simp [*]; done)), H', ⟨by have := HJ4.out; have := HJ7.out; first | omega | exact Nat.le_refl _⟩, ⟨by (with_reducible repeat (first | apply Kd.N_alloc | apply Kd.N_drewN | apply Kd.N_drew)); exact Kd.N_mono HO178.out (fun _ hk => ⟨hk.1.2, ⟨hk.1.1.1.1.2, hk.2⟩⟩)⟩, ⟨by (with_reducible repeat (first | apply Kd.V_alloc | apply Kd.V_drewN | apply Kd.V_drew)); exact Kd.V_mono HO181.out (fun _ hk => ⟨hk.1.1.1.1.1, ⟨hk.1.2, ⟨hk.1.1.1.1.2, hk.2⟩⟩⟩)⟩, ⟨by (with_reducible repeat (first | apply Kd.N_alloc | apply Kd.N_drewN | apply Kd.N_drew)); exact Kd.N_mono HO197.out (fun _ hk => ⟨hk.1.2.2.1, ⟨hk.1.2.2.2, hk.2⟩⟩)⟩, ⟨by (with_reducible repeat (first | apply Kd.V_alloc | apply Kd.V_drewN | apply Kd.V_drew)); exact Kd.V_mono HO200.out (fun _ hk => ⟨hk.1.2.2.2.1, ⟨hk.1.1, ⟨hk.1.2.2.2.2, hk.2⟩⟩⟩)⟩, ⟨by (with_reducible repeat (first | refine blk_drewN ?_ _ | refine blk_drew ?_ | refine blk_alloc ?_ _)); exact BK182.out⟩, ⟨by (with_reducible repeat (first | refine blk_drewN ?_ _ | refine blk_drew ?_ | refine blk_alloc ?_ _)); exact BK201.out⟩, ⟨by repeat (first | (with_reducible first | exact HB.out | apply below_alloc | apply pw_below_drewN | apply below_drew1 | refine below_set ?_ GE182.out | refine below_set ?_ GE201.out) | exact HB.out)⟩⟩
                · replace c47 := Bool.eq_false_iff.mpr c47
                  subst c47
                  have H1 : (laws_FnMsName.j2 kj7 a1 a2 t202 t204 true) = some r := by rw [if_neg (show ¬ (false = true) by decide)] at H; exact H
                  clear H
                  have H := H1
                  clear H1
                  have H' := Aside0.mk H
                  clear H
                  go_wp2
                  repeat (go_quiet (fail); try go_wp2)
                  go_meet
                  case rel => exact ⟨_, (true), (by first | rfl | (simp; done) | (simp [*]; done)), H', ⟨by have := HJ4.out; have := HJ7.out; first | omega | exact Nat.le_refl _⟩, ⟨by (with_reducible repeat (first | apply Kd.N_alloc | apply Kd.N_drewN | apply Kd.N_drew)); exact Kd.N_mono HO178.out (fun _ hk => ⟨hk.1.2, ⟨hk.1.1.1.1.2, hk.2⟩⟩)⟩, ⟨by (with_reducible repeat (first | apply Kd.V_alloc | apply Kd.V_drewN | apply Kd.V_drew)); exact Kd.V_mono HO181.out (fun _ hk => ⟨hk.1.1.1.1.1, ⟨hk.1.2, ⟨hk.1.1.1.1.2, hk.2⟩⟩⟩)⟩, ⟨by (with_reducible repeat (first | apply Kd.N_alloc | apply Kd.N_drewN | apply Kd.N_drew)); exact Kd.N_mono HO197.out (fun _ hk => ⟨hk.1.2.2.1, ⟨hk.1.2.2.2, hk.2⟩⟩)⟩, ⟨by (with_reducible repeat (first | apply Kd.V_alloc | apply Kd.V_drewN | apply Kd.V_drew)); exact Kd.V_mono HO200.out (fun _ hk => ⟨hk.1.2.2.2.1, ⟨hk.1.1, ⟨hk.1.2.2.2.2, hk.2⟩⟩⟩)⟩, ⟨by (with_reducible repeat (first | refine blk_drewN ?_ _ | refine blk_drew ?_ | refine blk_alloc ?_ _)); exact BK182.out⟩, ⟨by (with_reducible repeat (first | refine blk_drewN ?_ _ | refine blk_drew ?_ | refine blk_alloc ?_ _)); exact BK201.out⟩, ⟨by repeat (first | (with_reducible first | exact HB.out | apply below_alloc | apply pw_below_drewN | apply below_drew1 | refine below_set ?_ GE182.out | refine below_set ?_ GE201.out) | exact HB.out)⟩⟩
              case rest =>
                clear HC25
                try clear c1
                try clear p2
                try clear c3
                try clear c4
                try clear c6
                try clear c6b0
                try clear c6b1
                try clear c7
                try clear c9
                try clear c9b0
                try clear c10
                try clear c10b0
                try clear c11
                try clear c11b0
                try clear c11b1
                try clear c11b2
                try clear c13
                try clear c18
                try clear c39
                try clear c47
                try clear c48
                try clear hcz31_0
                try clear hcz31_1
                try clear hcz31_2
                try clear hcz31_3
                try clear hcz31_4
                try clear hcz40_0
                try clear hcz40_1
                try clear hcz40_2
                try clear hcz40_3
                try clear hcz40_4
                try clear hcz43_0
                try clear hcz43_1
                try clear hcz43_2
                try clear hcz43_3
                try clear hcz43_4
                try clear hcz45_0
                try clear hcz45_1
                try clear hcz45_2
                try clear hcz45_3
                try clear hcz45_4
                try clear hfz31_0
                try clear hfz31_1
                try clear hfz31_2
                try clear hfz31_3
                try clear hfz31_4
                try clear hfz40_0
                try clear hfz40_1
                try clear hfz40_2
                try clear hfz40_3
                try clear hfz40_4
                try clear hfz43_0
                try clear hfz43_1
                try clear hfz43_2
                try clear hfz43_3
                try clear hfz43_4
                try clear hfz45_0
                try clear hfz45_1
                try clear hfz45_2
                try clear hfz45_3
                try clear hfz45_4
                try clear p2
                obtain ⟨kq, x83_24, rfl, HA, HJ24, HO_183003, HO_183004, HO_202003, HO_202004, BK182, BK201, HB⟩ := hcut
                cases kq with
                | zero => exact absurd HA.out (by simp [laws_FnMsName.j2])
                | succ kj24 =>
                  have H := HA.out
                  clear HA
                  simp only [laws_FnMsName.j2] at H
                  by_cases c49 : x83_24 = true
                  · subst c49
                    have H1 : (some false) = some r := by rw [if_pos rfl] at H; exact H
                    clear H
                    have H := H1
                    clear H1
                    obtain rfl := Option.some.inj H
                    go_wp2
                    repeat (go_quiet (fail); try go_wp2)
                    go_ret
                    exact ⟨by first | rfl | (simp [errW_none, errW_some] <;> rfl) | (simp [*, errW_none, errW_some] <;> rfl), by repeat (first | (with_reducible first | exact HB.out | apply below_alloc | apply pw_below_drewN | apply below_drew1 | refine below_set ?_ GE182.out | refine below_set ?_ GE201.out) | exact HB.out)⟩
                  · replace c49 := Bool.eq_false_iff.mpr c49
                    subst c49
                    have H1 : (laws_FnMsName.l0 kj24 a1 a2 t202 t204 0) = some r := by rw [if_neg (show ¬ (false = true) by decide)] at H; exact H
                    clear H
                    have H := H1
                    clear H1
                    have H' := Aside0.mk H
                    clear H
                    go_wp2
                    repeat (go_quiet (fail); try go_wp2)
                    go_loopg [15] kj24 (fun kq v15 w' => ∃ (x15_4 : Int), v15 = .int .i64 x15_4 ∧ Aside0 (laws_FnMsName.l0 kq a1 a2 t202 t204 x15_4 = some r) ∧ Aside0 (kq ≤ kj24) ∧ Aside0 (Kd.N k43 43 w' w.heap.size (fun k_ => some k_ ≠ ((.slice Ao41 t195.length co41) : Value).ownBlock ∧ k_ ≠ gb182 ∧ k_ ≠ gb201) (.slice Ao32 t176.length co32) t176) ∧ Aside0 (Kd.V k27 27 w' w.heap.size (fun k_ => some k_ ≠ ((.slice Ao32 t176.length co32) : Value).ownBlock ∧ some k_ ≠ ((.slice Ao41 t195.length co41) : Value).ownBlock ∧ k_ ≠ gb182 ∧ k_ ≠ gb201) (.slice Ao33 t179.length co33) t179) ∧ Aside0 (Kd.N k43 43 w' w.heap.size (fun k_ => some k_ ≠ ((.slice Ao32 t176.length co32) : Value).ownBlock ∧ k_ ≠ gb182 ∧ k_ ≠ gb201) (.slice Ao41 t195.length co41) t195) ∧ Aside0 (Kd.V k27 27 w' w.heap.size (fun k_ => some k_ ≠ ((.slice Ao32 t176.length co32) : Value).ownBlock ∧ some k_ ≠ ((.slice Ao41 t195.length co41) : Value).ownBlock ∧ k_ ≠ gb182 ∧ k_ ≠ gb201) (.slice Ao42 t198.length co42) t198) ∧ Aside0 (w'.heap[gb182]? = some (.cells #[.int .u8 t173, .int .u8 t174, .int .u32 t175, (.slice Ao32 t176.length co32), (.slice Ao33 t179.length co33)] 39 (0, 0))) ∧ Aside0 (w'.heap[gb201]? = some (.cells #[.int .u8 t192, .int .u8 t193, .int .u32 t194, (.slice Ao41 t195.length co41), (.slice Ao42 t198.length co42)] 39 (0, 0))) ∧ Aside0 (Below w.heap.size w w'))
                    case atStart => exact ⟨(0), (by first | rfl | (simp; done) | (simp [*]; done)), H', ⟨Nat.le_refl _⟩, ⟨by (with_reducible repeat (first | apply Kd.N_alloc | apply Kd.N_drewN | apply Kd.N_drew)); exact HO_183003.out⟩, ⟨by (with_reducible repeat (first | apply Kd.V_alloc | apply Kd.V_drewN | apply Kd.V_drew)); exact HO_183004.out⟩, ⟨by (with_reducible repeat (first | apply Kd.N_alloc | apply Kd.N_drewN | apply Kd.N_drew)); exact HO_202003.out⟩, ⟨by (with_reducible repeat (first | apply Kd.V_alloc | apply Kd.V_drewN | apply Kd.V_drew)); exact HO_202004.out⟩, ⟨by (with_reducible repeat (first | refine blk_drewN ?_ _ | refine blk_drew ?_ | refine blk_alloc ?_ _)); exact BK182.out⟩, ⟨by (with_reducible repeat (first | refine blk_drewN ?_ _ | refine blk_drew ?_ | refine blk_alloc ?_ _)); exact BK201.out⟩, ⟨by repeat (first | (with_reducible first | exact HB.out | apply below_alloc | apply pw_below_drewN | apply below_drew1 | refine below_set ?_ GE182.out | refine below_set ?_ GE201.out) | exact HB.out)⟩⟩
                    case round =>
                      clear H'
                      try clear c1
                      try clear p2
                      try clear c3
                      try clear c4
                      try clear c6
                      try clear c6b0
                      try clear c6b1
                      try clear c7
                      try clear c9
                      try clear c9b0
                      try clear c10
                      try clear c10b0
                      try clear c11
                      try clear c11b0
                      try clear c11b1
                      try clear c11b2
                      try clear c13
                      try clear c18
                      try clear c39
                      try clear c47
                      try clear c48
                      try clear c49
                      try clear hcz31_0
                      try clear hcz31_1
                      try clear hcz31_2
                      try clear hcz31_3
                      try clear hcz31_4
                      try clear hcz40_0
                      try clear hcz40_1
                      try clear hcz40_2
                      try clear hcz40_3
                      try clear hcz40_4
                      try clear hcz43_0
                      try clear hcz43_1
                      try clear hcz43_2
                      try clear hcz43_3
                      try clear hcz43_4
                      try clear hcz45_0
                      try clear hcz45_1
                      try clear hcz45_2
                      try clear hcz45_3
                      try clear hcz45_4
                      try clear hfz31_0
                      try clear hfz31_1
                      try clear hfz31_2
                      try clear hfz31_3
                      try clear hfz31_4
                      try clear hfz40_0
                      try clear hfz40_1
                      try clear hfz40_2
                      try clear hfz40_3
                      try clear hfz40_4
                      try clear hfz43_0
                      try clear hfz43_1
                      try clear hfz43_2
                      try clear hfz43_3
                      try clear hfz43_4
                      try clear hfz45_0
                      try clear hfz45_1
                      try clear hfz45_2
                      try clear hfz45_3
                      try clear hfz45_4
                      try clear p2
                      obtain ⟨x15_4, rfl, HA, HK4, HO_183003, HO_183004, HO_202003, HO_202004, BK182, BK201, HB⟩ := hrel
                      cases gk with
                      | zero => exact absurd HA.out (by simp [laws_FnMsName.l0])
                      | succ k4 =>
                        have H := HA.out
                        clear HA
                        simp only [laws_FnMsName.l0] at H
                        by_cases c50 : (wrap64 (x15_4 + (a1.size : Int))) < (t202.size : Int)
                        · rw [if_pos c50] at H
                          have c50b0 : decide ((wrap64 (x15_4 + (a1.size : Int))) < (t202.size : Int)) = true := decide_eq_true c50
                          clear c50
                          by_cases c51 : 0 ≤ x15_4
                          · rw [if_pos c51] at H
                            have c51b0 := eq_true c51
                            have c51b1 : decide (0 ≤ x15_4) = true := decide_eq_true c51
                            clear c51
                            by_cases c52 : x15_4 ≤ (wrap64 ((wrap64 (x15_4 + (a1.size : Int))) + 1))
                            · rw [if_pos c52] at H
                              have c52b0 := eq_true c52
                              have c52b1 : decide (x15_4 ≤ (wrap64 ((wrap64 (x15_4 + (a1.size : Int))) + 1))) = true := decide_eq_true c52
                              by_cases c53 : (wrap64 ((wrap64 (x15_4 + (a1.size : Int))) + 1)) ≤ (t202.size : Int)
                              · rw [if_pos c53] at H
                                have c53b0 := eq_true c53
                                have c53b1 : decide ((wrap64 ((wrap64 (x15_4 + (a1.size : Int))) + 1)) ≤ (t202.size : Int)) = true := decide_eq_true c53
                                by_cases c54 : a1.size + 1 ≤ 9223372036854775807
                                · rw [if_pos c54] at H
                                  have c54b0 := eq_true c54
                                  have c54b1 : decide (a1.size + 1 ≤ 9223372036854775807) = true := decide_eq_true c54
                                  try have c54b2 : (9223372036854775807 < a1.size + 1) = False := eq_false (Nat.not_lt.2 c54)
                                  by_cases c55 : (t202.extract (x15_4 : Int).toNat ((wrap64 ((wrap64 (x15_4 + (a1.size : Int))) + 1)) : Int).toNat).toList = (a1 ++ (⟨#[0]⟩ : ByteArray)).toList
                                  · rw [if_pos c55] at H
                                    have c55b0 : ((t202.extract (x15_4 : Int).toNat ((wrap64 ((wrap64 (x15_4 + (a1.size : Int))) + 1)) : Int).toNat).toList == (a1 ++ (⟨#[0]⟩ : ByteArray)).toList) = true := beq_iff_eq.mpr c55
                                    have c55b1 : ((t202.extract (x15_4 : Int).toNat ((wrap64 ((wrap64 (x15_4 + (a1.size : Int))) + 1)) : Int).toNat).toList != (a1 ++ (⟨#[0]⟩ : ByteArray)).toList) = false := bne_eq_false_iff_eq.mpr c55
                                    clear c55
                                    have c56b0 := eq_true (of_decide_eq_true (by first | (with_reducible assumption) | assumption) : 0 ≤ x15_4)
                                    have c57b0 := eq_true (of_decide_eq_true (by first | (with_reducible assumption) | assumption) : x15_4 ≤ (wrap64 ((wrap64 (x15_4 + (a1.size : Int))) + 1)))
                                    by_cases c58 : (wrap64 ((wrap64 (x15_4 + (a1.size : Int))) + 1)) ≤ (t204.size : Int)
                                    · rw [if_pos c58] at H
                                      have c58b0 := eq_true c58
                                      have c58b1 : decide ((wrap64 ((wrap64 (x15_4 + (a1.size : Int))) + 1)) ≤ (t204.size : Int)) = true := decide_eq_true c58
                                      by_cases c59 : a2.size + 1 ≤ 9223372036854775807
                                      · rw [if_pos c59] at H
                                        have c59b0 := eq_true c59
                                        have c59b1 : decide (a2.size + 1 ≤ 9223372036854775807) = true := decide_eq_true c59
                                        try have c59b2 : (9223372036854775807 < a2.size + 1) = False := eq_false (Nat.not_lt.2 c59)
                                        by_cases c60 : (t204.extract (x15_4 : Int).toNat ((wrap64 ((wrap64 (x15_4 + (a1.size : Int))) + 1)) : Int).toNat).toList = (a2 ++ (⟨#[0]⟩ : ByteArray)).toList
                                        · rw [if_pos c60] at H
                                          have c60b0 : ((t204.extract (x15_4 : Int).toNat ((wrap64 ((wrap64 (x15_4 + (a1.size : Int))) + 1)) : Int).toNat).toList == (a2 ++ (⟨#[0]⟩ : ByteArray)).toList) = true := beq_iff_eq.mpr c60
                                          have c60b1 : ((t204.extract (x15_4 : Int).toNat ((wrap64 ((wrap64 (x15_4 + (a1.size : Int))) + 1)) : Int).toNat).toList != (a2 ++ (⟨#[0]⟩ : ByteArray)).toList) = false := bne_eq_false_iff_eq.mpr c60
                                          clear c60
                                          have c61b0 := eq_true (of_decide_eq_true (by first | (with_reducible assumption) | assumption) : 0 ≤ x15_4)
                                          by_cases c62 : x15_4 ≤ (t202.size : Int)
                                          · rw [if_pos c62] at H
                                            have c62b0 := eq_true c62
                                            have c62b1 : decide (x15_4 ≤ (t202.size : Int)) = true := decide_eq_true c62
                                            clear c62
                                            have c63b0 := eq_true (of_decide_eq_true (by first | (with_reducible assumption) | assumption) : 0 ≤ x15_4)
                                            by_cases c64 : x15_4 ≤ (t204.size : Int)
                                            · rw [if_pos c64] at H
                                              have c64b0 := eq_true c64
                                              have c64b1 : decide (x15_4 ≤ (t204.size : Int)) = true := decide_eq_true c64
                                              clear c64
                                              by_cases c65 : (t202.extract 0 (x15_4 : Int).toNat).toList = (t204.extract 0 (x15_4 : Int).toNat).toList
                                              · rw [if_pos c65] at H
                                                have c65b0 : ((t202.extract 0 (x15_4 : Int).toNat).toList == (t204.extract 0 (x15_4 : Int).toNat).toList) = true := beq_iff_eq.mpr c65
                                                have c65b1 : ((t202.extract 0 (x15_4 : Int).toNat).toList != (t204.extract 0 (x15_4 : Int).toNat).toList) = false := bne_eq_false_iff_eq.mpr c65
                                                clear c65
                                                obtain ⟨ji66, hji66⟩ : ∃ j_ : Int, (wrap64 (x15_4 + (a1.size : Int))) = j_ := ⟨_, rfl⟩
                                                replace H : (if 0 ≤ (ji66) then (if (ji66) ≤ (t202.size : Int) then (if (ji66) ≤ (t204.size : Int) then (some ((t202.extract ((ji66) : Int).toNat t202.size).toList == (t204.extract ((ji66) : Int).toNat t204.size).toList)) else (none)) else (none)) else (none)) = some r := by first | (rw [hji66] at H; exact H) | (simp only [hji66] at H ⊢; exact H)
                                                (try rw [hji66] at c50b0)
                                                (try rw [hji66] at c52b0)
                                                (try rw [hji66] at c52b1)
                                                (try rw [hji66] at c52)
                                                (try rw [hji66] at c53b0)
                                                (try rw [hji66] at c53b1)
                                                (try rw [hji66] at c53)
                                                (try rw [hji66] at c55b0)
                                                (try rw [hji66] at c55b1)
                                                (try rw [hji66] at c58b0)
                                                (try rw [hji66] at c58b1)
                                                (try rw [hji66] at c58)
                                                (try rw [hji66] at c60b0)
                                                (try rw [hji66] at c60b1)
                                                have hji66w : (IntKind.i64.wrap (x15_4 + (a1.size : Int))) = ji66 := (i64_w _).trans hji66
                                                by_cases c67 : 0 ≤ (ji66)
                                                · rw [if_pos c67] at H
                                                  have c67b0 := eq_true c67
                                                  have c67b1 : decide (0 ≤ (ji66)) = true := decide_eq_true c67
                                                  clear c67
                                                  by_cases c68 : (ji66) ≤ (t202.size : Int)
                                                  · rw [if_pos c68] at H
                                                    have c68b0 := eq_true c68
                                                    have c68b1 : decide ((ji66) ≤ (t202.size : Int)) = true := decide_eq_true c68
                                                    clear c68
                                                    have c69b0 := eq_true (of_decide_eq_true (by first | (with_reducible assumption) | assumption) : 0 ≤ (ji66))
                                                    by_cases c70 : (ji66) ≤ (t204.size : Int)
                                                    · rw [if_pos c70] at H
                                                      have c70b0 := eq_true c70
                                                      have c70b1 : decide ((ji66) ≤ (t204.size : Int)) = true := decide_eq_true c70
                                                      clear c70
                                                      obtain rfl := Option.some.inj H
                                                      go_wp2
                                                      repeat (go_quiet (fail); try go_wp2)
                                                      go_ret
                                                      exact ⟨by first | rfl | (simp [errW_none, errW_some] <;> rfl) | (simp only [← hji66]; first | rfl | (simp [errW_none, errW_some] <;> rfl)) | (simp [*, errW_none, errW_some] <;> rfl), by repeat (first | (with_reducible first | exact HB.out | apply below_alloc | apply pw_below_drewN | apply below_drew1 | refine below_set ?_ GE182.out | refine below_set ?_ GE201.out) | exact HB.out)⟩
                                                    · rw [if_neg c70] at H
                                                      exact absurd H (by simp)
                                                  · rw [if_neg c68] at H
                                                    exact absurd H (by simp)
                                                · rw [if_neg c67] at H
                                                  exact absurd H (by simp)
                                              · rw [if_neg c65] at H
                                                have c65b0 : ((t202.extract 0 (x15_4 : Int).toNat).toList == (t204.extract 0 (x15_4 : Int).toNat).toList) = false := beq_eq_false_iff_ne.mpr c65
                                                have c65b1 : ((t202.extract 0 (x15_4 : Int).toNat).toList != (t204.extract 0 (x15_4 : Int).toNat).toList) = true := bne_iff_ne.mpr c65
                                                have H' := Aside0.mk H
                                                clear H
                                                go_wp2
                                                repeat (go_quiet (fail); try go_wp2)
                                                go_roundg k4
                                                case measure => have := HJ4.out; have := HJ7.out; have := HJ24.out; have := HK4.out; omega
                                                case rel => exact ⟨(wrap64 (x15_4 + 1)), (by first | rfl | (simp; done) | (simp [*]; done)), H', ⟨by have := HJ4.out; have := HJ7.out; have := HJ24.out; have := HK4.out; omega⟩, ⟨by (with_reducible repeat (first | apply Kd.N_alloc | apply Kd.N_drewN | apply Kd.N_drew)); exact HO_183003.out⟩, ⟨by (with_reducible repeat (first | apply Kd.V_alloc | apply Kd.V_drewN | apply Kd.V_drew)); exact HO_183004.out⟩, ⟨by (with_reducible repeat (first | apply Kd.N_alloc | apply Kd.N_drewN | apply Kd.N_drew)); exact HO_202003.out⟩, ⟨by (with_reducible repeat (first | apply Kd.V_alloc | apply Kd.V_drewN | apply Kd.V_drew)); exact HO_202004.out⟩, ⟨by (with_reducible repeat (first | refine blk_drewN ?_ _ | refine blk_drew ?_ | refine blk_alloc ?_ _)); exact BK182.out⟩, ⟨by (with_reducible repeat (first | refine blk_drewN ?_ _ | refine blk_drew ?_ | refine blk_alloc ?_ _)); exact BK201.out⟩, ⟨by repeat (first | (with_reducible first | exact HB.out | apply below_alloc | apply pw_below_drewN | apply below_drew1 | refine below_set ?_ GE182.out | refine below_set ?_ GE201.out) | exact HB.out)⟩⟩
                                            · rw [if_neg c64] at H
                                              exact absurd H (by simp)
                                          · rw [if_neg c62] at H
                                            exact absurd H (by simp)
                                        · rw [if_neg c60] at H
                                          have c60b0 : ((t204.extract (x15_4 : Int).toNat ((wrap64 ((wrap64 (x15_4 + (a1.size : Int))) + 1)) : Int).toNat).toList == (a2 ++ (⟨#[0]⟩ : ByteArray)).toList) = false := beq_eq_false_iff_ne.mpr c60
                                          have c60b1 : ((t204.extract (x15_4 : Int).toNat ((wrap64 ((wrap64 (x15_4 + (a1.size : Int))) + 1)) : Int).toNat).toList != (a2 ++ (⟨#[0]⟩ : ByteArray)).toList) = true := bne_iff_ne.mpr c60
                                          have H' := Aside0.mk H
                                          clear H
                                          go_wp2
                                          repeat (go_quiet (fail); try go_wp2)
                                          go_roundg k4
                                          case measure => have := HJ4.out; have := HJ7.out; have := HJ24.out; have := HK4.out; omega
                                          case rel => exact ⟨(wrap64 (x15_4 + 1)), (by first | rfl | (simp; done) | (simp [*]; done)), H', ⟨by have := HJ4.out; have := HJ7.out; have := HJ24.out; have := HK4.out; omega⟩, ⟨by (with_reducible repeat (first | apply Kd.N_alloc | apply Kd.N_drewN | apply Kd.N_drew)); exact HO_183003.out⟩, ⟨by (with_reducible repeat (first | apply Kd.V_alloc | apply Kd.V_drewN | apply Kd.V_drew)); exact HO_183004.out⟩, ⟨by (with_reducible repeat (first | apply Kd.N_alloc | apply Kd.N_drewN | apply Kd.N_drew)); exact HO_202003.out⟩, ⟨by (with_reducible repeat (first | apply Kd.V_alloc | apply Kd.V_drewN | apply Kd.V_drew)); exact HO_202004.out⟩, ⟨by (with_reducible repeat (first | refine blk_drewN ?_ _ | refine blk_drew ?_ | refine blk_alloc ?_ _)); exact BK182.out⟩, ⟨by (with_reducible repeat (first | refine blk_drewN ?_ _ | refine blk_drew ?_ | refine blk_alloc ?_ _)); exact BK201.out⟩, ⟨by repeat (first | (with_reducible first | exact HB.out | apply below_alloc | apply pw_below_drewN | apply below_drew1 | refine below_set ?_ GE182.out | refine below_set ?_ GE201.out) | exact HB.out)⟩⟩
                                      · rw [if_neg c59] at H
                                        exact absurd H (by simp)
                                    · rw [if_neg c58] at H
                                      exact absurd H (by simp)
                                  · rw [if_neg c55] at H
                                    have c55b0 : ((t202.extract (x15_4 : Int).toNat ((wrap64 ((wrap64 (x15_4 + (a1.size : Int))) + 1)) : Int).toNat).toList == (a1 ++ (⟨#[0]⟩ : ByteArray)).toList) = false := beq_eq_false_iff_ne.mpr c55
                                    have c55b1 : ((t202.extract (x15_4 : Int).toNat ((wrap64 ((wrap64 (x15_4 + (a1.size : Int))) + 1)) : Int).toNat).toList != (a1 ++ (⟨#[0]⟩ : ByteArray)).toList) = true := bne_iff_ne.mpr c55
                                    have H' := Aside0.mk H
                                    clear H
                                    go_wp2
                                    repeat (go_quiet (fail); try go_wp2)
                                    go_roundg k4
                                    case measure => have := HJ4.out; have := HJ7.out; have := HJ24.out; have := HK4.out; omega
                                    case rel => exact ⟨(wrap64 (x15_4 + 1)), (by first | rfl | (simp; done) | (simp [*]; done)), H', ⟨by have := HJ4.out; have := HJ7.out; have := HJ24.out; have := HK4.out; omega⟩, ⟨by (with_reducible repeat (first | apply Kd.N_alloc | apply Kd.N_drewN | apply Kd.N_drew)); exact HO_183003.out⟩, ⟨by (with_reducible repeat (first | apply Kd.V_alloc | apply Kd.V_drewN | apply Kd.V_drew)); exact HO_183004.out⟩, ⟨by (with_reducible repeat (first | apply Kd.N_alloc | apply Kd.N_drewN | apply Kd.N_drew)); exact HO_202003.out⟩, ⟨by (with_reducible repeat (first | apply Kd.V_alloc | apply Kd.V_drewN | apply Kd.V_drew)); exact HO_202004.out⟩, ⟨by (with_reducible repeat (first | refine blk_drewN ?_ _ | refine blk_drew ?_ | refine blk_alloc ?_ _)); exact BK182.out⟩, ⟨by (with_reducible repeat (first | refine blk_drewN ?_ _ | refine blk_drew ?_ | refine blk_alloc ?_ _)); exact BK201.out⟩, ⟨by repeat (first | (with_reducible first | exact HB.out | apply below_alloc | apply pw_below_drewN | apply below_drew1 | refine below_set ?_ GE182.out | refine below_set ?_ GE201.out) | exact HB.out)⟩⟩
                                · rw [if_neg c54] at H
                                  exact absurd H (by simp)
                              · rw [if_neg c53] at H
                                exact absurd H (by simp)
                            · rw [if_neg c52] at H
                              exact absurd H (by simp)
                          · rw [if_neg c51] at H
                            exact absurd H (by simp)
                        · rw [if_neg c50] at H
                          have c50b0 : decide ((wrap64 (x15_4 + (a1.size : Int))) < (t202.size : Int)) = false := decide_eq_false c50
                          clear c50
                          obtain rfl := Option.some.inj H
                          go_wp2
                          repeat (go_quiet (fail); try go_wp2)
                          go_ret
                          exact ⟨by first | rfl | (simp [errW_none, errW_some] <;> rfl) | (simp [*, errW_none, errW_some] <;> rfl), by repeat (first | (with_reducible first | exact HB.out | apply below_alloc | apply pw_below_drewN | apply below_drew1 | refine below_set ?_ GE182.out | refine below_set ?_ GE201.out) | exact HB.out)⟩
def laws_FnMsName.Pure : Prop := ∀ (a0 : Int) (a1 : ByteArray) (a2 : ByteArray) (a3 : Bool), (Lit.int .u8 a0).wf = true → a1.size ≤ 140737488351232 → a2.size ≤ 140737488351232 → ∃ k, laws_FnMsName.f k a0 a1 a2 a3 = some true
theorem laws_FnMsName.walk (P : laws_FnMsName.Pure) (a0 : Int) (a1 : ByteArray) (a2 : ByteArray) (a3 : Bool) (w : World) (w0 : (Lit.int .u8 a0).wf = true) (w1 : a1.size ≤ 140737488351232) (w2 : a2.size ≤ 140737488351232) :
    Calls Tryz.prog 4 #[.int .u8 a0, .string a1, .string a2, .bool a3] w fun e w' => e = .returned (.bool true) ∧ Below w.heap.size w w' := by
  obtain ⟨k, h⟩ := P a0 a1 a2 a3 w0 w1 w2
  refine (laws_FnMsName.calls k a0 a1 a2 a3 true w h).mono ?_
  rintro e w' ⟨rfl, hd⟩
  exact ⟨rfl, hd⟩
end Go.Proofs.YtldjigfnagfalaaGreatDoor.PMn

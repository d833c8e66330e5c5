-- Written by a program of this session (wip/tools/myprint.py) for this claim.
import Derived.Test.YthkmgbfobobpdaaPAdx0
import Derived.Test.YthkmgbfobobpdaaPAdx2
namespace Go.Proofs.Ythkmgbfobobpdaa.PAd
open Go.RowKit Go.Proofs.YthkmgbfobobpdaaW.PrintWords Go.Proofs.YthkmgbfobobpdaaW.PrintLast Go.Proofs.YthkmgbfobobpdaaW.PrintMore
attribute [local go_sem] max2_int min2_int max_two min_two max_three min_three max_four min_four   -- for this text's walks alone
set_option linter.unusedVariables false
set_option linter.unusedSimpArgs false

/-! ### laws_FnAdCut: function 10 -/
mutual
def laws_FnAdCut.j0 : Nat → ByteArray → Int → ByteArray → Bool → Option (Bool)
  | 0, _, _, _, _ => none
  | k + 1, x0, x1, x5, x28 => if x28 = true then (if x0.toList = ([] : List UInt8) then ((impl_AdEscape.f (⟨#[97]⟩ : ByteArray)).bind fun t138 => (some (t138.toList == ([97] : List UInt8)))) else (some false)) else (if (wrap64 ((x5.size : Int) + 1)) = 0 then (none) else (laws_FnAdCut.l0 k x0 x5 (Int.tmod (wrap64 (x1)) (wrap64 ((x5.size : Int) + 1))) 0 0))
def laws_FnAdCut.l0 : Nat → ByteArray → ByteArray → Int → Int → Int → Option (Bool)
  | 0, _, _, _, _, _ => none
  | k + 1, x0, x5, x6, x7, x8 => if x7 < (x0.size : Int) then (if 0 ≤ x7 then (if x7 ≤ (wrap64 (x7 + 1)) then (if (wrap64 (x7 + 1)) ≤ (x0.size : Int) then ((spec_EscapeAddress.f k (x0.extract (x7 : Int).toNat ((wrap64 (x7 + 1)) : Int).toNat)).bind fun t139 => (if (wrap64 (x8 + (t139.size : Int))) > x6 then (if 0 ≤ x6 then (if x6 ≤ (x5.size : Int) then ((Given.AdUnescape.f k (x5.extract 0 (x6 : Int).toNat)).bind fun bt140 => (if (bt140.2 == (x8 == x6)) = true then (if bt140.2 = true then (if x7 ≤ (x0.size : Int) then (some (bt140.1.toList == (x0.extract 0 (x7 : Int).toNat).toList)) else (none)) else (some true)) else (some false))) else (none)) else (none)) else (laws_FnAdCut.l0 k x0 x5 x6 (wrap64 (x7 + 1)) (wrap64 (x8 + (t139.size : Int)))))) else (none)) else (none)) else (none)) else (if 0 ≤ x6 then (if x6 ≤ (x5.size : Int) then ((Given.AdUnescape.f k (x5.extract 0 (x6 : Int).toNat)).bind fun bt142 => (if (bt142.2 == (x8 == x6)) = true then (if bt142.2 = true then (if 0 ≤ x7 then (if x7 ≤ (x0.size : Int) then (some (bt142.1.toList == (x0.extract 0 (x7 : Int).toNat).toList)) else (none)) else (none)) else (some true)) else (some false))) else (none)) else (none))
end
def laws_FnAdCut.f (k : Nat) (a0 : ByteArray) (a1 : Int) : Option (Bool) := if (a0.size : Int) > 2147483647 then (some true) else (if (a0.size : Int) > 4096 then (some true) else ((impl_AdEscape.f a0).bind fun t137 => (if (t137.size : Int) < (a0.size : Int) then (laws_FnAdCut.j0 k a0 a1 t137 true) else (laws_FnAdCut.j0 k a0 a1 t137 (a0.toList == ([] : List UInt8))))))
theorem laws_FnAdCut.mono_l : ∀ k, (∀ y0 y1 y2 y3, LeO (laws_FnAdCut.j0 k y0 y1 y2 y3) (laws_FnAdCut.j0 (k + 1) y0 y1 y2 y3)) ∧ (∀ y0 y1 y2 y3 y4, LeO (laws_FnAdCut.l0 k y0 y1 y2 y3 y4) (laws_FnAdCut.l0 (k + 1) y0 y1 y2 y3 y4))
  | 0 => ⟨fun _ _ _ _ r h => by simp [laws_FnAdCut.j0] at h, fun _ _ _ _ _ r h => by simp [laws_FnAdCut.l0] at h⟩
  | k + 1 => by
    obtain ⟨ih0, ih1⟩ := laws_FnAdCut.mono_l k
    refine ⟨?_, ?_⟩
    · intro y0 y1 y2 y3
      unfold laws_FnAdCut.j0
      repeat' first
      | (with_reducible exact ih0 _ _ _ _)
      | (with_reducible exact ih1 _ _ _ _ _)
      | (with_reducible exact Given.AdUnescape.mono _ _)
      | (with_reducible exact spec_EscapeAddress.mono _ _)
      | (with_reducible exact LeO.refl _)
      | (with_reducible exact LeO.none _)
      | (with_reducible refine LeO.ite ?_ ?_)
      | (with_reducible refine LeO.bind ?_ (fun _ => ?_))
      | exact ih0 _ _ _ _
      | exact ih1 _ _ _ _ _
      | exact Given.AdUnescape.mono _ _
      | exact spec_EscapeAddress.mono _ _
      | exact LeO.none _
      | refine LeO.ite ?_ ?_
      | refine LeO.bind ?_ (fun _ => ?_)
    · intro y0 y1 y2 y3 y4
      unfold laws_FnAdCut.l0
      repeat' first
      | (with_reducible exact ih0 _ _ _ _)
      | (with_reducible exact ih1 _ _ _ _ _)
      | (with_reducible exact Given.AdUnescape.mono _ _)
      | (with_reducible exact spec_EscapeAddress.mono _ _)
      | (with_reducible exact LeO.refl _)
      | (with_reducible exact LeO.none _)
      | (with_reducible refine LeO.ite ?_ ?_)
      | (with_reducible refine LeO.bind ?_ (fun _ => ?_))
      | exact ih0 _ _ _ _
      | exact ih1 _ _ _ _ _
      | exact Given.AdUnescape.mono _ _
      | exact spec_EscapeAddress.mono _ _
      | exact LeO.none _
      | refine LeO.ite ?_ ?_
      | refine LeO.bind ?_ (fun _ => ?_)
theorem laws_FnAdCut.mono : ∀ a0 a1 k, LeO (laws_FnAdCut.f k a0 a1) (laws_FnAdCut.f (k + 1) a0 a1) := by
  intro a0 a1 k
  obtain ⟨ih0, ih1⟩ := laws_FnAdCut.mono_l k
  unfold laws_FnAdCut.f
  repeat' first
      | (with_reducible exact ih0 _ _ _ _)
      | (with_reducible exact ih1 _ _ _ _ _)
      | (with_reducible exact Given.AdUnescape.mono _ _)
      | (with_reducible exact spec_EscapeAddress.mono _ _)
      | (with_reducible exact LeO.refl _)
      | (with_reducible exact LeO.none _)
      | (with_reducible refine LeO.ite ?_ ?_)
      | (with_reducible refine LeO.bind ?_ (fun _ => ?_))
      | exact ih0 _ _ _ _
      | exact ih1 _ _ _ _ _
      | exact Given.AdUnescape.mono _ _
      | exact spec_EscapeAddress.mono _ _
      | exact LeO.none _
      | refine LeO.ite ?_ ?_
      | refine LeO.bind ?_ (fun _ => ?_)
set_option maxHeartbeats 8000000 in
set_option maxRecDepth 100000 in
theorem laws_FnAdCut.calls (k : Nat) (a0 : ByteArray) (a1 : Int) (r : Bool) (w : World) (h : laws_FnAdCut.f k a0 a1 = some r) :
    Calls Try.prog 10 #[.string a0, .int .u16 a1] w fun e w' => e = .returned (.bool r) ∧ Below w.heap.size w w' := by
  have HB := Aside0.mk (Below.refl w.heap.size w)
  have H : (if (a0.size : Int) > 2147483647 then (some true) else (if (a0.size : Int) > 4096 then (some true) else ((impl_AdEscape.f a0).bind fun t137 => (if (t137.size : Int) < (a0.size : Int) then (laws_FnAdCut.j0 k a0 a1 t137 true) else (laws_FnAdCut.j0 k a0 a1 t137 (a0.toList == ([] : List UInt8))))))) = some r := h
  clear h
  by_cases c3 : (a0.size : Int) > 2147483647
  · rw [if_pos c3] at H
    have c3b0 : decide (2147483647 < (a0.size : Int)) = true := decide_eq_true c3
    have c3b1 : decide (2147483647 < a0.size) = true := decide_eq_true (by omega)
    clear c3
    obtain rfl := Option.some.inj H
    go_enter Try.func10, Try.ntmps10
    go_wp2
    go_ret
    exact ⟨by first | rfl | (simp [errW_none, errW_some] <;> rfl) | (simp [*, errW_none, errW_some] <;> rfl), by repeat (first | (with_reducible first | exact HB.out | apply below_alloc | apply pw_below_drewN | apply below_drew1) | exact HB.out)⟩
  · rw [if_neg c3] at H
    have c3b0 : decide (2147483647 < (a0.size : Int)) = false := decide_eq_false c3
    have c3b1 : decide (2147483647 < a0.size) = false := decide_eq_false (by omega)
    clear c3
    by_cases c4 : (a0.size : Int) > 4096
    · rw [if_pos c4] at H
      have c4b0 : decide (4096 < (a0.size : Int)) = true := decide_eq_true c4
      have c4b1 : decide (4096 < a0.size) = true := decide_eq_true (by omega)
      clear c4
      obtain rfl := Option.some.inj H
      go_enter Try.func10, Try.ntmps10
      go_wp2
      go_ret
      exact ⟨by first | rfl | (simp [errW_none, errW_some] <;> rfl) | (simp [*, errW_none, errW_some] <;> rfl), by repeat (first | (with_reducible first | exact HB.out | apply below_alloc | apply pw_below_drewN | apply below_drew1) | exact HB.out)⟩
    · rw [if_neg c4] at H
      have c4b0 : decide (4096 < (a0.size : Int)) = false := decide_eq_false c4
      have c4b1 : decide (4096 < a0.size) = false := decide_eq_false (by omega)
      clear c4
      replace H := Option.bind_eq_some_iff.mp H
      obtain ⟨t137, A50, H⟩ := H
      replace H : (if (t137.size : Int) < (a0.size : Int) then (laws_FnAdCut.j0 k a0 a1 t137 true) else (laws_FnAdCut.j0 k a0 a1 t137 (a0.toList == ([] : List UInt8)))) = some r := H
      have A5 := Aside0.mk A50
      clear A50
      have HC6 := Aside0.mk H
      clear H
      go_enter Try.func10, Try.ntmps10
      go_upto_region 6 with (first | ((with_reducible refine gate_callee (f := 22) rfl ?_); refine goesL_ (some 19) rfl rfl Try.func22 (by kernel_rfl) rfl #[.string a0] rfl (by (try simp only [List.map_toArray, List.map_cons, List.map_nil]); first | done | rfl | (simp only [List.length_drop, List.length_take]; rfl)) ?_; (with_reducible refine (impl_AdEscape.calls a0 t137 _ A5.out).mono ?_); rintro e w7 ⟨rfl, hb⟩; refine ⟨_, rfl, ?_⟩; have n0_ := Aside0.mk (below_step (by repeat (first | (with_reducible first | exact HB.out | apply below_alloc | apply pw_below_drewN | apply below_drew1) | exact HB.out)) hb); clear HB; have HB := n0_; clear n0_; (try clear hb); (try clear hb2); (try clear hk); (try clear hi)))
      (try simp only [Act.put, List.setIfInBounds_toArray, List.set_cons_zero, List.set_cons_succ])
      go_cut [28] (fun v28 wc => ∃ (kq : Nat) (x28_5 : Bool), v28 = .bool x28_5 ∧ Aside0 (laws_FnAdCut.j0 kq a0 a1 t137 x28_5 = some r) ∧ Aside0 (kq ≤ k) ∧ Aside0 (Below w.heap.size w wc))
      case first =>
        have H := HC6.out
        clear HC6
        by_cases c8 : (t137.size : Int) < (a0.size : Int)
        · rw [if_pos c8] at H
          have c8b0 : decide ((t137.size : Int) < (a0.size : Int)) = true := decide_eq_true c8
          have c8b1 : decide (t137.size < a0.size) = true := decide_eq_true (Int.ofNat_lt.mp c8)
          clear c8
          (first | rw [c8b0] | (simp only [i64_w, i32_w]; rw [c8b0]) | skip)
          have H' := Aside0.mk H
          clear H
          go_wp2
          go_meet
          case rel => exact ⟨_, (true), (by first | rfl | (simp; done) | (simp [*]; done)), H', ⟨by first | omega | exact Nat.le_refl _⟩, ⟨by repeat (first | (with_reducible first | exact HB.out | apply below_alloc | apply pw_below_drewN | apply below_drew1) | exact HB.out)⟩⟩
        · rw [if_neg c8] at H
          have c8b0 : decide ((t137.size : Int) < (a0.size : Int)) = false := decide_eq_false c8
          have c8b1 : decide (t137.size < a0.size) = false := decide_eq_false (fun h => c8 (Int.ofNat_lt.mpr h))
          clear c8
          (first | rw [c8b0] | (simp only [i64_w, i32_w]; rw [c8b0]) | skip)
          have H' := Aside0.mk H
          clear H
          go_wp2
          go_meet
          case rel => exact ⟨_, ((a0.toList == ([] : List UInt8))), (by first | rfl | (simp; done) | (simp [*]; done)), H', ⟨by first | omega | exact Nat.le_refl _⟩, ⟨by repeat (first | (with_reducible first | exact HB.out | apply below_alloc | apply pw_below_drewN | apply below_drew1) | exact HB.out)⟩⟩
      case rest =>
        clear HC6
        try clear c1
        try clear c2
        try clear p2
        try clear c3
        try clear c3b0
        try clear c3b1
        try clear c4
        try clear c4b0
        try clear c4b1
        try clear c8
        try clear c8b0
        try clear c8b1
        obtain ⟨kq, x28_5, rfl, HA, HJ5, HB⟩ := hcut
        cases kq with
        | zero => exact absurd HA.out (by simp [laws_FnAdCut.j0])
        | succ kj5 =>
          have H := HA.out
          clear HA
          simp only [laws_FnAdCut.j0] at H
          by_cases c9 : x28_5 = true
          · subst c9
            have H1 : (if a0.toList = ([] : List UInt8) then ((impl_AdEscape.f (⟨#[97]⟩ : ByteArray)).bind fun t138 => (some (t138.toList == ([97] : List UInt8)))) else (some false)) = some r := by rw [if_pos rfl] at H; exact H
            clear H
            have H := H1
            clear H1
            by_cases c10 : a0.toList = ([] : List UInt8)
            · rw [if_pos c10] at H
              have c10b0 : (a0.toList == ([] : List UInt8)) = true := beq_iff_eq.mpr c10
              have c10b1 : (a0.toList != ([] : List UInt8)) = false := bne_eq_false_iff_eq.mpr c10
              clear c10
              replace H := Option.bind_eq_some_iff.mp H
              obtain ⟨t138, A110, H⟩ := H
              replace H : (some (t138.toList == ([97] : List UInt8))) = some r := H
              have A11 := Aside0.mk A110
              clear A110
              obtain rfl := Option.some.inj H
              go_wp2_with (first | (go_at_call 22; (with_reducible refine (impl_AdEscape.calls (⟨#[97]⟩ : ByteArray) t138 _ A11.out).mono ?_); rintro e w12 ⟨rfl, hb⟩; have n0_ := Aside0.mk (below_step (by repeat (first | (with_reducible first | exact HB.out | apply below_alloc | apply pw_below_drewN | apply below_drew1) | exact HB.out)) hb); clear HB; have HB := n0_; clear n0_; (try clear hb); (try clear hb2); (try clear hk); (try clear hi)))
              go_ret
              exact ⟨by first | rfl | (simp [errW_none, errW_some] <;> rfl) | (simp [*, errW_none, errW_some] <;> rfl), by repeat (first | (with_reducible first | exact HB.out | apply below_alloc | apply pw_below_drewN | apply below_drew1) | exact HB.out)⟩
            · rw [if_neg c10] at H
              have c10b0 : (a0.toList == ([] : List UInt8)) = false := beq_eq_false_iff_ne.mpr c10
              have c10b1 : (a0.toList != ([] : List UInt8)) = true := bne_iff_ne.mpr c10
              obtain rfl := Option.some.inj H
              go_wp2
              go_ret
              exact ⟨by first | rfl | (simp [errW_none, errW_some] <;> rfl) | (simp [*, errW_none, errW_some] <;> rfl), by repeat (first | (with_reducible first | exact HB.out | apply below_alloc | apply pw_below_drewN | apply below_drew1) | exact HB.out)⟩
          · replace c9 := Bool.eq_false_iff.mpr c9
            subst c9
            have H1 : (if (wrap64 ((t137.size : Int) + 1)) = 0 then (none) else (laws_FnAdCut.l0 kj5 a0 t137 (Int.tmod (wrap64 (a1)) (wrap64 ((t137.size : Int) + 1))) 0 0)) = some r := by rw [if_neg (show ¬ (false = true) by decide)] at H; exact H
            clear H
            have H := H1
            clear H1
            by_cases c13 : (wrap64 ((t137.size : Int) + 1)) = 0
            · rw [if_pos c13] at H
              exact absurd H (by simp)
            · rw [if_neg c13] at H
              have c13b0 : ((wrap64 ((t137.size : Int) + 1)) == 0) = false := beq_eq_false_iff_ne.mpr c13
              have c13b1 : ((wrap64 ((t137.size : Int) + 1)) != 0) = true := bne_iff_ne.mpr c13
              have H' := Aside0.mk H
              clear H
              go_wp2
              go_loopg [7, 8] kj5 (fun kq v7 v8 w' => ∃ (x7_2 : Int) (x8_2 : Int), v7 = .int .i64 x7_2 ∧ v8 = .int .i64 x8_2 ∧ Aside0 (laws_FnAdCut.l0 kq a0 t137 (Int.tmod (wrap64 (a1)) (wrap64 ((t137.size : Int) + 1))) x7_2 x8_2 = some r) ∧ Aside0 (kq ≤ kj5) ∧ Aside0 (Below w.heap.size w w'))
              case atStart => exact ⟨(0), (0), (by first | rfl | (simp; done) | (simp [*]; done)), (by first | rfl | (simp; done) | (simp [*]; done)), H', ⟨Nat.le_refl _⟩, ⟨by repeat (first | (with_reducible first | exact HB.out | apply below_alloc | apply pw_below_drewN | apply below_drew1) | exact HB.out)⟩⟩
              case round =>
                clear H'
                try clear c1
                try clear c2
                try clear p2
                try clear c3
                try clear c3b0
                try clear c3b1
                try clear c4
                try clear c4b0
                try clear c4b1
                try clear p6
                try clear c8
                try clear c8b0
                try clear c8b1
                try clear c9
                try clear c10
                try clear c10b0
                try clear c10b1
                try clear c13
                try clear c13b0
                try clear c13b1
                try clear p2
                obtain ⟨x7_2, x8_2, rfl, rfl, HA, HK2, HB⟩ := hrel
                cases gk with
                | zero => exact absurd HA.out (by simp [laws_FnAdCut.l0])
                | succ k2 =>
                  have H := HA.out
                  clear HA
                  simp only [laws_FnAdCut.l0] at H
                  by_cases c14 : x7_2 < (a0.size : Int)
                  · rw [if_pos c14] at H
                    have c14b0 : decide (x7_2 < (a0.size : Int)) = true := decide_eq_true c14
                    clear c14
                    by_cases c15 : 0 ≤ x7_2
                    · rw [if_pos c15] at H
                      have c15b0 := eq_true c15
                      have c15b1 : decide (0 ≤ x7_2) = true := decide_eq_true c15
                      clear c15
                      by_cases c16 : x7_2 ≤ (wrap64 (x7_2 + 1))
                      · rw [if_pos c16] at H
                        have c16b0 := eq_true c16
                        have c16b1 : decide (x7_2 ≤ (wrap64 (x7_2 + 1))) = true := decide_eq_true c16
                        by_cases c17 : (wrap64 (x7_2 + 1)) ≤ (a0.size : Int)
                        · rw [if_pos c17] at H
                          have c17b0 := eq_true c17
                          have c17b1 : decide ((wrap64 (x7_2 + 1)) ≤ (a0.size : Int)) = true := decide_eq_true c17
                          replace H := Option.bind_eq_some_iff.mp H
                          obtain ⟨t139, A180, H⟩ := H
                          replace H : (if (wrap64 (x8_2 + (t139.size : Int))) > (Int.tmod (wrap64 (a1)) (wrap64 ((t137.size : Int) + 1))) then (if 0 ≤ (Int.tmod (wrap64 (a1)) (wrap64 ((t137.size : Int) + 1))) then (if (Int.tmod (wrap64 (a1)) (wrap64 ((t137.size : Int) + 1))) ≤ (t137.size : Int) then ((Given.AdUnescape.f k2 (t137.extract 0 ((Int.tmod (wrap64 (a1)) (wrap64 ((t137.size : Int) + 1))) : Int).toNat)).bind fun bt140 => (if (bt140.2 == (x8_2 == (Int.tmod (wrap64 (a1)) (wrap64 ((t137.size : Int) + 1))))) = true then (if bt140.2 = true then (if x7_2 ≤ (a0.size : Int) then (some (bt140.1.toList == (a0.extract 0 (x7_2 : Int).toNat).toList)) else (none)) else (some true)) else (some false))) else (none)) else (none)) else (laws_FnAdCut.l0 k2 a0 t137 (Int.tmod (wrap64 (a1)) (wrap64 ((t137.size : Int) + 1))) (wrap64 (x7_2 + 1)) (wrap64 (x8_2 + (t139.size : Int))))) = some r := H
                          have A18 := Aside0.mk A180
                          clear A180
                          by_cases c19 : (wrap64 (x8_2 + (t139.size : Int))) > (Int.tmod (wrap64 (a1)) (wrap64 ((t137.size : Int) + 1)))
                          · rw [if_pos c19] at H
                            have c19b0 : decide ((Int.tmod (wrap64 (a1)) (wrap64 ((t137.size : Int) + 1))) < (wrap64 (x8_2 + (t139.size : Int)))) = true := decide_eq_true c19
                            clear c19
                            obtain ⟨ji20, hji20⟩ : ∃ j_ : Int, (Int.tmod (wrap64 (a1)) (wrap64 ((t137.size : Int) + 1))) = j_ := ⟨_, rfl⟩
                            replace H : (if 0 ≤ (ji20) then (if (ji20) ≤ (t137.size : Int) then ((Given.AdUnescape.f k2 (t137.extract 0 ((ji20) : Int).toNat)).bind fun bt140 => (if (bt140.2 == (x8_2 == (ji20))) = true then (if bt140.2 = true then (if x7_2 ≤ (a0.size : Int) then (some (bt140.1.toList == (a0.extract 0 (x7_2 : Int).toNat).toList)) else (none)) else (some true)) else (some false))) else (none)) else (none)) = some r := by first | (rw [hji20] at H; exact H) | (simp only [hji20] at H ⊢; exact H)
                            (try rw [hji20] at c19b0)
                            (try rw [hji20] at A18)
                            by_cases c21 : 0 ≤ (ji20)
                            · rw [if_pos c21] at H
                              have c21b0 := eq_true c21
                              have c21b1 : decide (0 ≤ (ji20)) = true := decide_eq_true c21
                              clear c21
                              by_cases c22 : (ji20) ≤ (t137.size : Int)
                              · rw [if_pos c22] at H
                                have c22b0 := eq_true c22
                                have c22b1 : decide ((ji20) ≤ (t137.size : Int)) = true := decide_eq_true c22
                                clear c22
                                replace H := Option.bind_eq_some_iff.mp H
                                obtain ⟨⟨t140, t141⟩, A230, H⟩ := H
                                replace H : (if (t141 == (x8_2 == (ji20))) = true then (if t141 = true then (if x7_2 ≤ (a0.size : Int) then (some (t140.toList == (a0.extract 0 (x7_2 : Int).toNat).toList)) else (none)) else (some true)) else (some false)) = some r := H
                                have A23 := Aside0.mk A230
                                clear A230
                                by_cases c24 : (t141 == (x8_2 == (ji20))) = true
                                · rw [if_pos c24] at H
                                  have c24b0 : (t141 == (x8_2 == (ji20))) = true := c24
                                  (try (have c24b1 : decide (t141 = (x8_2 == (ji20))) = true := by simpa using c24))
                                  (try (have c24b2 : (t141 == (x8_2 == (ji20))) = true := by simpa using c24))
                                  clear c24
                                  by_cases c25 : t141 = true
                                  · subst c25
                                    have H1 : (if x7_2 ≤ (a0.size : Int) then (some (t140.toList == (a0.extract 0 (x7_2 : Int).toNat).toList)) else (none)) = some r := by rw [if_pos rfl] at H; exact H
                                    clear H
                                    have H := H1
                                    clear H1
                                    have c26b0 := eq_true (of_decide_eq_true (by first | (with_reducible assumption) | assumption) : 0 ≤ x7_2)
                                    by_cases c27 : x7_2 ≤ (a0.size : Int)
                                    · rw [if_pos c27] at H
                                      have c27b0 := eq_true c27
                                      have c27b1 : decide (x7_2 ≤ (a0.size : Int)) = true := decide_eq_true c27
                                      clear c27
                                      obtain rfl := Option.some.inj H
                                      go_wp2_with (first | ((with_reducible refine gate_callee (f := 20) rfl ?_); refine goesL_ (some 50) rfl rfl Try.func20 (by kernel_rfl) rfl #[.string (a0.extract (x7_2 : Int).toNat ((wrap64 (x7_2 + 1)) : Int).toNat)] rfl (by (try simp only [List.map_toArray, List.map_cons, List.map_nil]); first | done | rfl | (simp only [List.length_drop, List.length_take]; rfl)) ?_; (with_reducible refine (spec_EscapeAddress.calls k2 (a0.extract (x7_2 : Int).toNat ((wrap64 (x7_2 + 1)) : Int).toNat) t139 _ A18.out).mono ?_); rintro e w28 ⟨rfl, hb⟩; refine ⟨_, rfl, ?_⟩; have n0_ := Aside0.mk (below_step (by repeat (first | (with_reducible first | exact HB.out | apply below_alloc | apply pw_below_drewN | apply below_drew1) | exact HB.out)) hb); clear HB; have HB := n0_; clear n0_; (try clear hb); (try clear hb2); (try clear hk); (try clear hi)) | ((with_reducible refine gate_callee (f := 19) rfl ?_); refine goesL_ (some 66) rfl rfl Try.func19 (by kernel_rfl) rfl #[.string (t137.extract 0 ((ji20) : Int).toNat)] rfl (by (try simp only [List.map_toArray, List.map_cons, List.map_nil]); first | done | (simp only [hji20]; rfl) | rfl | (simp only [List.length_drop, List.length_take]; rfl)) ?_; (with_reducible refine (Given.AdUnescape.calls k2 (t137.extract 0 ((ji20) : Int).toNat) t140 true _ A23.out).mono ?_); rintro e w29 ⟨rfl, hb⟩; refine ⟨_, rfl, ?_⟩; have n0_ := Aside0.mk (below_step (by repeat (first | (with_reducible first | exact HB.out | apply below_alloc | apply pw_below_drewN | apply below_drew1) | exact HB.out)) hb); clear HB; have HB := n0_; clear n0_; (try clear hb); (try clear hb2); (try clear hk); (try clear hi)))
                                      go_ret
                                      exact ⟨by first | rfl | (simp [errW_none, errW_some] <;> rfl) | (simp only [← hji20]; first | rfl | (simp [errW_none, errW_some] <;> rfl)) | (simp [*, errW_none, errW_some] <;> rfl), by repeat (first | (with_reducible first | exact HB.out | apply below_alloc | apply pw_below_drewN | apply below_drew1) | exact HB.out)⟩
                                    · rw [if_neg c27] at H
                                      exact absurd H (by simp)
                                  · replace c25 := Bool.eq_false_iff.mpr c25
                                    subst c25
                                    have H1 : (some true) = some r := by rw [if_neg (show ¬ (false = true) by decide)] at H; exact H
                                    clear H
                                    have H := H1
                                    clear H1
                                    obtain rfl := Option.some.inj H
                                    go_wp2_with (first | ((with_reducible refine gate_callee (f := 20) rfl ?_); refine goesL_ (some 50) rfl rfl Try.func20 (by kernel_rfl) rfl #[.string (a0.extract (x7_2 : Int).toNat ((wrap64 (x7_2 + 1)) : Int).toNat)] rfl (by (try simp only [List.map_toArray, List.map_cons, List.map_nil]); first | done | rfl | (simp only [List.length_drop, List.length_take]; rfl)) ?_; (with_reducible refine (spec_EscapeAddress.calls k2 (a0.extract (x7_2 : Int).toNat ((wrap64 (x7_2 + 1)) : Int).toNat) t139 _ A18.out).mono ?_); rintro e w30 ⟨rfl, hb⟩; refine ⟨_, rfl, ?_⟩; have n0_ := Aside0.mk (below_step (by repeat (first | (with_reducible first | exact HB.out | apply below_alloc | apply pw_below_drewN | apply below_drew1) | exact HB.out)) hb); clear HB; have HB := n0_; clear n0_; (try clear hb); (try clear hb2); (try clear hk); (try clear hi)) | ((with_reducible refine gate_callee (f := 19) rfl ?_); refine goesL_ (some 66) rfl rfl Try.func19 (by kernel_rfl) rfl #[.string (t137.extract 0 ((ji20) : Int).toNat)] rfl (by (try simp only [List.map_toArray, List.map_cons, List.map_nil]); first | done | (simp only [hji20]; rfl) | rfl | (simp only [List.length_drop, List.length_take]; rfl)) ?_; (with_reducible refine (Given.AdUnescape.calls k2 (t137.extract 0 ((ji20) : Int).toNat) t140 false _ A23.out).mono ?_); rintro e w31 ⟨rfl, hb⟩; refine ⟨_, rfl, ?_⟩; have n0_ := Aside0.mk (below_step (by repeat (first | (with_reducible first | exact HB.out | apply below_alloc | apply pw_below_drewN | apply below_drew1) | exact HB.out)) hb); clear HB; have HB := n0_; clear n0_; (try clear hb); (try clear hb2); (try clear hk); (try clear hi)))
                                    go_ret
                                    exact ⟨by first | rfl | (simp [errW_none, errW_some] <;> rfl) | (simp only [← hji20]; first | rfl | (simp [errW_none, errW_some] <;> rfl)) | (simp [*, errW_none, errW_some] <;> rfl), by repeat (first | (with_reducible first | exact HB.out | apply below_alloc | apply pw_below_drewN | apply below_drew1) | exact HB.out)⟩
                                · rw [if_neg c24] at H
                                  have c24b0 : (t141 == (x8_2 == (ji20))) = false := by simpa using c24
                                  (try (have c24b1 : decide (t141 = (x8_2 == (ji20))) = false := by simpa using c24))
                                  (try (have c24b2 : (t141 == (x8_2 == (ji20))) = false := by simpa using c24))
                                  (try (have c24b3 : ¬ (t141 = (x8_2 == (ji20))) := by simpa using c24))
                                  clear c24
                                  obtain rfl := Option.some.inj H
                                  go_wp2_with (first | ((with_reducible refine gate_callee (f := 20) rfl ?_); refine goesL_ (some 50) rfl rfl Try.func20 (by kernel_rfl) rfl #[.string (a0.extract (x7_2 : Int).toNat ((wrap64 (x7_2 + 1)) : Int).toNat)] rfl (by (try simp only [List.map_toArray, List.map_cons, List.map_nil]); first | done | rfl | (simp only [List.length_drop, List.length_take]; rfl)) ?_; (with_reducible refine (spec_EscapeAddress.calls k2 (a0.extract (x7_2 : Int).toNat ((wrap64 (x7_2 + 1)) : Int).toNat) t139 _ A18.out).mono ?_); rintro e w32 ⟨rfl, hb⟩; refine ⟨_, rfl, ?_⟩; have n0_ := Aside0.mk (below_step (by repeat (first | (with_reducible first | exact HB.out | apply below_alloc | apply pw_below_drewN | apply below_drew1) | exact HB.out)) hb); clear HB; have HB := n0_; clear n0_; (try clear hb); (try clear hb2); (try clear hk); (try clear hi)) | ((with_reducible refine gate_callee (f := 19) rfl ?_); refine goesL_ (some 66) rfl rfl Try.func19 (by kernel_rfl) rfl #[.string (t137.extract 0 ((ji20) : Int).toNat)] rfl (by (try simp only [List.map_toArray, List.map_cons, List.map_nil]); first | done | (simp only [hji20]; rfl) | rfl | (simp only [List.length_drop, List.length_take]; rfl)) ?_; (with_reducible refine (Given.AdUnescape.calls k2 (t137.extract 0 ((ji20) : Int).toNat) t140 t141 _ A23.out).mono ?_); rintro e w33 ⟨rfl, hb⟩; refine ⟨_, rfl, ?_⟩; have n0_ := Aside0.mk (below_step (by repeat (first | (with_reducible first | exact HB.out | apply below_alloc | apply pw_below_drewN | apply below_drew1) | exact HB.out)) hb); clear HB; have HB := n0_; clear n0_; (try clear hb); (try clear hb2); (try clear hk); (try clear hi)))
                                  go_ret
                                  exact ⟨by first | rfl | (simp [errW_none, errW_some] <;> rfl) | (simp only [← hji20]; first | rfl | (simp [errW_none, errW_some] <;> rfl)) | (simp [*, errW_none, errW_some] <;> rfl), by repeat (first | (with_reducible first | exact HB.out | apply below_alloc | apply pw_below_drewN | apply below_drew1) | exact HB.out)⟩
                              · rw [if_neg c22] at H
                                exact absurd H (by simp)
                            · rw [if_neg c21] at H
                              exact absurd H (by simp)
                          · rw [if_neg c19] at H
                            have c19b0 : decide ((Int.tmod (wrap64 (a1)) (wrap64 ((t137.size : Int) + 1))) < (wrap64 (x8_2 + (t139.size : Int)))) = false := decide_eq_false c19
                            clear c19
                            have H' := Aside0.mk H
                            clear H
                            go_wp2_with (first | ((with_reducible refine gate_callee (f := 20) rfl ?_); refine goesL_ (some 50) rfl rfl Try.func20 (by kernel_rfl) rfl #[.string (a0.extract (x7_2 : Int).toNat ((wrap64 (x7_2 + 1)) : Int).toNat)] rfl (by (try simp only [List.map_toArray, List.map_cons, List.map_nil]); first | done | rfl | (simp only [List.length_drop, List.length_take]; rfl)) ?_; (with_reducible refine (spec_EscapeAddress.calls k2 (a0.extract (x7_2 : Int).toNat ((wrap64 (x7_2 + 1)) : Int).toNat) t139 _ A18.out).mono ?_); rintro e w34 ⟨rfl, hb⟩; refine ⟨_, rfl, ?_⟩; have n0_ := Aside0.mk (below_step (by repeat (first | (with_reducible first | exact HB.out | apply below_alloc | apply pw_below_drewN | apply below_drew1) | exact HB.out)) hb); clear HB; have HB := n0_; clear n0_; (try clear hb); (try clear hb2); (try clear hk); (try clear hi)))
                            go_roundg k2
                            case measure => have := HJ5.out; have := HK2.out; omega
                            case rel => exact ⟨(wrap64 (x7_2 + 1)), (wrap64 (x8_2 + (t139.size : Int))), (by first | rfl | (simp; done) | (simp [*]; done)), (by first | rfl | (simp; done) | (simp [*]; done)), H', ⟨by have := HJ5.out; have := HK2.out; omega⟩, ⟨by repeat (first | (with_reducible first | exact HB.out | apply below_alloc | apply pw_below_drewN | apply below_drew1) | exact HB.out)⟩⟩
                        · rw [if_neg c17] at H
                          exact absurd H (by simp)
                      · rw [if_neg c16] at H
                        exact absurd H (by simp)
                    · rw [if_neg c15] at H
                      exact absurd H (by simp)
                  · rw [if_neg c14] at H
                    have c14b0 : decide (x7_2 < (a0.size : Int)) = false := decide_eq_false c14
                    clear c14
                    obtain ⟨ji35, hji35⟩ : ∃ j_ : Int, (Int.tmod (wrap64 (a1)) (wrap64 ((t137.size : Int) + 1))) = j_ := ⟨_, rfl⟩
                    replace H : (if 0 ≤ (ji35) then (if (ji35) ≤ (t137.size : Int) then ((Given.AdUnescape.f k2 (t137.extract 0 ((ji35) : Int).toNat)).bind fun bt142 => (if (bt142.2 == (x8_2 == (ji35))) = true then (if bt142.2 = true then (if 0 ≤ x7_2 then (if x7_2 ≤ (a0.size : Int) then (some (bt142.1.toList == (a0.extract 0 (x7_2 : Int).toNat).toList)) else (none)) else (none)) else (some true)) else (some false))) else (none)) else (none)) = some r := by first | (rw [hji35] at H; exact H) | (simp only [hji35] at H ⊢; exact H)
                    by_cases c36 : 0 ≤ (ji35)
                    · rw [if_pos c36] at H
                      have c36b0 := eq_true c36
                      have c36b1 : decide (0 ≤ (ji35)) = true := decide_eq_true c36
                      clear c36
                      by_cases c37 : (ji35) ≤ (t137.size : Int)
                      · rw [if_pos c37] at H
                        have c37b0 := eq_true c37
                        have c37b1 : decide ((ji35) ≤ (t137.size : Int)) = true := decide_eq_true c37
                        clear c37
                        replace H := Option.bind_eq_some_iff.mp H
                        obtain ⟨⟨t142, t143⟩, A380, H⟩ := H
                        replace H : (if (t143 == (x8_2 == (ji35))) = true then (if t143 = true then (if 0 ≤ x7_2 then (if x7_2 ≤ (a0.size : Int) then (some (t142.toList == (a0.extract 0 (x7_2 : Int).toNat).toList)) else (none)) else (none)) else (some true)) else (some false)) = some r := H
                        have A38 := Aside0.mk A380
                        clear A380
                        by_cases c39 : (t143 == (x8_2 == (ji35))) = true
                        · rw [if_pos c39] at H
                          have c39b0 : (t143 == (x8_2 == (ji35))) = true := c39
                          (try (have c39b1 : decide (t143 = (x8_2 == (ji35))) = true := by simpa using c39))
                          (try (have c39b2 : (t143 == (x8_2 == (ji35))) = true := by simpa using c39))
                          clear c39
                          by_cases c40 : t143 = true
                          · subst c40
                            have H1 : (if 0 ≤ x7_2 then (if x7_2 ≤ (a0.size : Int) then (some (t142.toList == (a0.extract 0 (x7_2 : Int).toNat).toList)) else (none)) else (none)) = some r := by rw [if_pos rfl] at H; exact H
                            clear H
                            have H := H1
                            clear H1
                            by_cases c41 : 0 ≤ x7_2
                            · rw [if_pos c41] at H
                              have c41b0 := eq_true c41
                              have c41b1 : decide (0 ≤ x7_2) = true := decide_eq_true c41
                              clear c41
                              by_cases c42 : x7_2 ≤ (a0.size : Int)
                              · rw [if_pos c42] at H
                                have c42b0 := eq_true c42
                                have c42b1 : decide (x7_2 ≤ (a0.size : Int)) = true := decide_eq_true c42
                                clear c42
                                obtain rfl := Option.some.inj H
                                go_wp2_with (first | ((with_reducible refine gate_callee (f := 19) rfl ?_); refine goesL_ (some 66) rfl rfl Try.func19 (by kernel_rfl) rfl #[.string (t137.extract 0 ((ji35) : Int).toNat)] rfl (by (try simp only [List.map_toArray, List.map_cons, List.map_nil]); first | done | (simp only [hji35]; rfl) | rfl | (simp only [List.length_drop, List.length_take]; rfl)) ?_; (with_reducible refine (Given.AdUnescape.calls k2 (t137.extract 0 ((ji35) : Int).toNat) t142 true _ A38.out).mono ?_); rintro e w43 ⟨rfl, hb⟩; refine ⟨_, rfl, ?_⟩; have n0_ := Aside0.mk (below_step (by repeat (first | (with_reducible first | exact HB.out | apply below_alloc | apply pw_below_drewN | apply below_drew1) | exact HB.out)) hb); clear HB; have HB := n0_; clear n0_; (try clear hb); (try clear hb2); (try clear hk); (try clear hi)))
                                go_ret
                                exact ⟨by first | rfl | (simp [errW_none, errW_some] <;> rfl) | (simp only [← hji35]; first | rfl | (simp [errW_none, errW_some] <;> rfl)) | (simp [*, errW_none, errW_some] <;> rfl), by repeat (first | (with_reducible first | exact HB.out | apply below_alloc | apply pw_below_drewN | apply below_drew1) | exact HB.out)⟩
                              · rw [if_neg c42] at H
                                exact absurd H (by simp)
                            · rw [if_neg c41] at H
                              exact absurd H (by simp)
                          · replace c40 := Bool.eq_false_iff.mpr c40
                            subst c40
                            have H1 : (some true) = some r := by rw [if_neg (show ¬ (false = true) by decide)] at H; exact H
                            clear H
                            have H := H1
                            clear H1
                            obtain rfl := Option.some.inj H
                            go_wp2_with (first | ((with_reducible refine gate_callee (f := 19) rfl ?_); refine goesL_ (some 66) rfl rfl Try.func19 (by kernel_rfl) rfl #[.string (t137.extract 0 ((ji35) : Int).toNat)] rfl (by (try simp only [List.map_toArray, List.map_cons, List.map_nil]); first | done | (simp only [hji35]; rfl) | rfl | (simp only [List.length_drop, List.length_take]; rfl)) ?_; (with_reducible refine (Given.AdUnescape.calls k2 (t137.extract 0 ((ji35) : Int).toNat) t142 false _ A38.out).mono ?_); rintro e w44 ⟨rfl, hb⟩; refine ⟨_, rfl, ?_⟩; have n0_ := Aside0.mk (below_step (by repeat (first | (with_reducible first | exact HB.out | apply below_alloc | apply pw_below_drewN | apply below_drew1) | exact HB.out)) hb); clear HB; have HB := n0_; clear n0_; (try clear hb); (try clear hb2); (try clear hk); (try clear hi)))
                            go_ret
                            exact ⟨by first | rfl | (simp [errW_none, errW_some] <;> rfl) | (simp only [← hji35]; first | rfl | (simp [errW_none, errW_some] <;> rfl)) | (simp [*, errW_none, errW_some] <;> rfl), by repeat (first | (with_reducible first | exact HB.out | apply below_alloc | apply pw_below_drewN | apply below_drew1) | exact HB.out)⟩
                        · rw [if_neg c39] at H
                          have c39b0 : (t143 == (x8_2 == (ji35))) = false := by simpa using c39
                          (try (have c39b1 : decide (t143 = (x8_2 == (ji35))) = false := by simpa using c39))
                          (try (have c39b2 : (t143 == (x8_2 == (ji35))) = false := by simpa using c39))
                          (try (have c39b3 : ¬ (t143 = (x8_2 == (ji35))) := by simpa using c39))
                          clear c39
                          obtain rfl := Option.some.inj H
                          go_wp2_with (first | ((with_reducible refine gate_callee (f := 19) rfl ?_); refine goesL_ (some 66) rfl rfl Try.func19 (by kernel_rfl) rfl #[.string (t137.extract 0 ((ji35) : Int).toNat)] rfl (by (try simp only [List.map_toArray, List.map_cons, List.map_nil]); first | done | (simp only [hji35]; rfl) | rfl | (simp only [List.length_drop, List.length_take]; rfl)) ?_; (with_reducible refine (Given.AdUnescape.calls k2 (t137.extract 0 ((ji35) : Int).toNat) t142 t143 _ A38.out).mono ?_); rintro e w45 ⟨rfl, hb⟩; refine ⟨_, rfl, ?_⟩; have n0_ := Aside0.mk (below_step (by repeat (first | (with_reducible first | exact HB.out | apply below_alloc | apply pw_below_drewN | apply below_drew1) | exact HB.out)) hb); clear HB; have HB := n0_; clear n0_; (try clear hb); (try clear hb2); (try clear hk); (try clear hi)))
                          go_ret
                          exact ⟨by first | rfl | (simp [errW_none, errW_some] <;> rfl) | (simp only [← hji35]; first | rfl | (simp [errW_none, errW_some] <;> rfl)) | (simp [*, errW_none, errW_some] <;> rfl), by repeat (first | (with_reducible first | exact HB.out | apply below_alloc | apply pw_below_drewN | apply below_drew1) | exact HB.out)⟩
                      · rw [if_neg c37] at H
                        exact absurd H (by simp)
                    · rw [if_neg c36] at H
                      exact absurd H (by simp)

/-- THE ONE PURE STATEMENT of laws_FnAdCut: yours. -/
def laws_FnAdCut.Pure : Prop := ∀ (a0 : ByteArray) (a1 : Int), a0.size ≤ 140737488351232 → (Lit.int .u16 a1).wf = true → ∃ k, laws_FnAdCut.f k a0 a1 = some true
theorem laws_FnAdCut.walk (P : laws_FnAdCut.Pure) (a0 : ByteArray) (a1 : Int) (w : World) (w0 : a0.size ≤ 140737488351232) (w1 : (Lit.int .u16 a1).wf = true) :
    Calls Try.prog 10 #[.string a0, .int .u16 a1] w fun e w' => e = .returned (.bool true) ∧ Below w.heap.size w w' := by
  obtain ⟨k, h⟩ := P a0 a1 w0 w1
  refine (laws_FnAdCut.calls k a0 a1 true w h).mono ?_
  rintro e w' ⟨rfl, hd⟩
  exact ⟨rfl, hd⟩

end Go.Proofs.Ythkmgbfobobpdaa.PAd

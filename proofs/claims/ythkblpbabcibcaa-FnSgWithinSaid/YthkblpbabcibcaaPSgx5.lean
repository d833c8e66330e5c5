-- Written by a program of this session (wip/tools/myprint.py) for this claim.
import Derived.Test.YthkblpbabcibcaaPSgx0
import Derived.Test.YthkblpbabcibcaaPSgx2
import Derived.Test.YthkblpbabcibcaaPSgx4
namespace Go.Proofs.Ythkblpbabcibcaa.PSg
open Go.RowKit Go.Proofs.YthkblpbabcibcaaW.PrintWords Go.Proofs.YthkblpbabcibcaaW.PrintLast Go.Proofs.YthkblpbabcibcaaW.PrintMore
attribute [local go_sem] max2_int min2_int max_two min_two max_three min_three max_four min_four   -- for this text's walks alone
set_option linter.unusedVariables false
set_option linter.unusedSimpArgs false

/-! ### laws_FnSgBegin: function 3 -/
def laws_FnSgBegin.j0 : Nat → ByteArray → Int → Int → Int → Bool → Option (Bool)
  | 0, _, _, _, _, _ => none
  | k + 1, x0, x1, x2, x3, x35 => if x35 = true then (some true) else ((spec_Complete.f k x0 (wrap64 (32 - (wrap64 (x1)))) (wrap64 (32 - (wrap64 (x2)))) (wrap64 (32 - (wrap64 (x3))))).bind fun t137 => ((Given.SgBegin.f x0 (wrap64 (x1)) (wrap64 (x2)) (wrap64 (x3))).bind fun bt138 => ((Given.SgBegin.f (⟨#[121]⟩ : ByteArray) 0 0 0).bind fun bt140 => (if (bt138.2 == (decide (t137 > 0))) = true then (if bt138.2 = true then (if 0 ≤ t137 then (if t137 ≤ (x0.size : Int) then (if bt138.1.toList = (x0.extract (t137 : Int).toNat x0.size).toList then (if bt140.2 = true then (some (bt140.1.toList == ([] : List UInt8))) else (some false)) else (some false)) else (none)) else (none)) else (if bt140.2 = true then (some (bt140.1.toList == ([] : List UInt8))) else (some false))) else (some false)))))
def laws_FnSgBegin.f (k : Nat) (a0 : ByteArray) (a1 : Int) (a2 : Int) (a3 : Int) : Option (Bool) := if (a0.size : Int) > 2147483647 then (some true) else (if (a0.size : Int) > 255 then (laws_FnSgBegin.j0 k a0 a1 a2 a3 true) else (if a1 > 40 then (laws_FnSgBegin.j0 k a0 a1 a2 a3 true) else (if a2 > 40 then (laws_FnSgBegin.j0 k a0 a1 a2 a3 true) else (if a3 > 40 then (laws_FnSgBegin.j0 k a0 a1 a2 a3 true) else ((laws_sgLeft.f k a0).bind fun t136 => (laws_FnSgBegin.j0 k a0 a1 a2 a3 t136))))))
theorem laws_FnSgBegin.mono_l : ∀ k, (∀ y0 y1 y2 y3 y4, LeO (laws_FnSgBegin.j0 k y0 y1 y2 y3 y4) (laws_FnSgBegin.j0 (k + 1) y0 y1 y2 y3 y4))
  | 0 => fun _ _ _ _ _ r h => by simp [laws_FnSgBegin.j0] at h
  | k + 1 => by
    have ih0 := laws_FnSgBegin.mono_l k
    · intro y0 y1 y2 y3 y4
      unfold laws_FnSgBegin.j0
      repeat' first
      | (with_reducible exact ih0 _ _ _ _ _)
      | (with_reducible exact laws_sgLeft.mono _ _)
      | (with_reducible exact spec_Complete.mono _ _ _ _ _)
      | (with_reducible exact LeO.refl _)
      | (with_reducible exact LeO.none _)
      | (with_reducible refine LeO.ite ?_ ?_)
      | (with_reducible refine LeO.bind ?_ (fun _ => ?_))
      | exact ih0 _ _ _ _ _
      | exact laws_sgLeft.mono _ _
      | exact spec_Complete.mono _ _ _ _ _
      | exact LeO.none _
      | refine LeO.ite ?_ ?_
      | refine LeO.bind ?_ (fun _ => ?_)
theorem laws_FnSgBegin.mono : ∀ a0 a1 a2 a3 k, LeO (laws_FnSgBegin.f k a0 a1 a2 a3) (laws_FnSgBegin.f (k + 1) a0 a1 a2 a3) := by
  intro a0 a1 a2 a3 k
  have ih0 := laws_FnSgBegin.mono_l k
  unfold laws_FnSgBegin.f
  repeat' first
      | (with_reducible exact ih0 _ _ _ _ _)
      | (with_reducible exact laws_sgLeft.mono _ _)
      | (with_reducible exact spec_Complete.mono _ _ _ _ _)
      | (with_reducible exact LeO.refl _)
      | (with_reducible exact LeO.none _)
      | (with_reducible refine LeO.ite ?_ ?_)
      | (with_reducible refine LeO.bind ?_ (fun _ => ?_))
      | exact ih0 _ _ _ _ _
      | exact laws_sgLeft.mono _ _
      | exact spec_Complete.mono _ _ _ _ _
      | exact LeO.none _
      | refine LeO.ite ?_ ?_
      | refine LeO.bind ?_ (fun _ => ?_)
set_option maxHeartbeats 8000000 in
set_option maxRecDepth 100000 in
theorem laws_FnSgBegin.calls (k : Nat) (a0 : ByteArray) (a1 : Int) (a2 : Int) (a3 : Int) (r : Bool) (w : World) (h : laws_FnSgBegin.f k a0 a1 a2 a3 = some r) :
    Calls Try.prog 3 #[.string a0, .int .u8 a1, .int .u8 a2, .int .u8 a3] w fun e w' => e = .returned (.bool r) ∧ Below w.heap.size w w' := by
  have HB := Aside0.mk (Below.refl w.heap.size w)
  have H : (if (a0.size : Int) > 2147483647 then (some true) else (if (a0.size : Int) > 255 then (laws_FnSgBegin.j0 k a0 a1 a2 a3 true) else (if a1 > 40 then (laws_FnSgBegin.j0 k a0 a1 a2 a3 true) else (if a2 > 40 then (laws_FnSgBegin.j0 k a0 a1 a2 a3 true) else (if a3 > 40 then (laws_FnSgBegin.j0 k a0 a1 a2 a3 true) else ((laws_sgLeft.f k a0).bind fun t136 => (laws_FnSgBegin.j0 k a0 a1 a2 a3 t136))))))) = some r := h
  clear h
  by_cases c5 : (a0.size : Int) > 2147483647
  · rw [if_pos c5] at H
    have c5b0 : decide (2147483647 < (a0.size : Int)) = true := decide_eq_true c5
    have c5b1 : decide (2147483647 < a0.size) = true := decide_eq_true (by omega)
    clear c5
    obtain rfl := Option.some.inj H
    go_enter Try.func3, Try.ntmps3
    go_wp2
    go_ret
    exact ⟨by first | rfl | (simp [errW_none, errW_some] <;> rfl) | (simp [*, errW_none, errW_some] <;> rfl), by repeat (first | (with_reducible first | exact HB.out | apply below_alloc | apply pw_below_drewN | apply below_drew1) | exact HB.out)⟩
  · rw [if_neg c5] at H
    have c5b0 : decide (2147483647 < (a0.size : Int)) = false := decide_eq_false c5
    have c5b1 : decide (2147483647 < a0.size) = false := decide_eq_false (by omega)
    clear c5
    have HC6 := Aside0.mk H
    clear H
    go_enter Try.func3, Try.ntmps3
    go_upto_region 3 with (fail)
    go_cut [35] (fun v35 wc => ∃ (kq : Nat) (x35_5 : Bool), v35 = .bool x35_5 ∧ Aside0 (laws_FnSgBegin.j0 kq a0 a1 a2 a3 x35_5 = some r) ∧ Aside0 (kq ≤ k) ∧ Aside0 (Below w.heap.size w wc))
    case first =>
      have H := HC6.out
      clear HC6
      by_cases c7 : (a0.size : Int) > 255
      · rw [if_pos c7] at H
        have c7b0 : decide (255 < (a0.size : Int)) = true := decide_eq_true c7
        have c7b1 : decide (255 < a0.size) = true := decide_eq_true (by omega)
        clear c7
        (first | rw [c7b0] | (simp only [i64_w, i32_w]; rw [c7b0]) | skip)
        have H' := Aside0.mk H
        clear H
        go_wp2
        go_meet
        case rel => exact ⟨_, (true), (by first | rfl | (simp; done) | (simp [*]; done)), H', ⟨by first | omega | exact Nat.le_refl _⟩, ⟨by repeat (first | (with_reducible first | exact HB.out | apply below_alloc | apply pw_below_drewN | apply below_drew1) | exact HB.out)⟩⟩
      · rw [if_neg c7] at H
        have c7b0 : decide (255 < (a0.size : Int)) = false := decide_eq_false c7
        have c7b1 : decide (255 < a0.size) = false := decide_eq_false (by omega)
        clear c7
        (first | rw [c7b0] | (simp only [i64_w, i32_w]; rw [c7b0]) | skip)
        by_cases c8 : a1 > 40
        · rw [if_pos c8] at H
          have c8b0 : decide (40 < a1) = true := decide_eq_true c8
          clear c8
          have H' := Aside0.mk H
          clear H
          go_wp2
          go_meet
          case rel => exact ⟨_, (true), (by first | rfl | (simp; done) | (simp [*]; done)), H', ⟨by first | omega | exact Nat.le_refl _⟩, ⟨by repeat (first | (with_reducible first | exact HB.out | apply below_alloc | apply pw_below_drewN | apply below_drew1) | exact HB.out)⟩⟩
        · rw [if_neg c8] at H
          have c8b0 : decide (40 < a1) = false := decide_eq_false c8
          clear c8
          by_cases c9 : a2 > 40
          · rw [if_pos c9] at H
            have c9b0 : decide (40 < a2) = true := decide_eq_true c9
            clear c9
            have H' := Aside0.mk H
            clear H
            go_wp2
            go_meet
            case rel => exact ⟨_, (true), (by first | rfl | (simp; done) | (simp [*]; done)), H', ⟨by first | omega | exact Nat.le_refl _⟩, ⟨by repeat (first | (with_reducible first | exact HB.out | apply below_alloc | apply pw_below_drewN | apply below_drew1) | exact HB.out)⟩⟩
          · rw [if_neg c9] at H
            have c9b0 : decide (40 < a2) = false := decide_eq_false c9
            clear c9
            by_cases c10 : a3 > 40
            · rw [if_pos c10] at H
              have c10b0 : decide (40 < a3) = true := decide_eq_true c10
              clear c10
              have H' := Aside0.mk H
              clear H
              go_wp2
              go_meet
              case rel => exact ⟨_, (true), (by first | rfl | (simp; done) | (simp [*]; done)), H', ⟨by first | omega | exact Nat.le_refl _⟩, ⟨by repeat (first | (with_reducible first | exact HB.out | apply below_alloc | apply pw_below_drewN | apply below_drew1) | exact HB.out)⟩⟩
            · rw [if_neg c10] at H
              have c10b0 : decide (40 < a3) = false := decide_eq_false c10
              clear c10
              replace H := Option.bind_eq_some_iff.mp H
              obtain ⟨t136, A110, H⟩ := H
              replace H : (laws_FnSgBegin.j0 k a0 a1 a2 a3 t136) = some r := H
              have A11 := Aside0.mk A110
              clear A110
              have H' := Aside0.mk H
              clear H
              go_wp2_with (first | (go_at_call 9; (with_reducible refine (laws_sgLeft.calls k a0 t136 _ A11.out).mono ?_); rintro e w12 ⟨rfl, hb⟩; have n0_ := Aside0.mk (below_step (by repeat (first | (with_reducible first | exact HB.out | apply below_alloc | apply pw_below_drewN | apply below_drew1) | exact HB.out)) hb); clear HB; have HB := n0_; clear n0_; (try clear hb); (try clear hb2); (try clear hk); (try clear hi)))
              go_meet
              case rel => exact ⟨_, (t136), (by first | rfl | (simp; done) | (simp [*]; done)), H', ⟨by first | omega | exact Nat.le_refl _⟩, ⟨by repeat (first | (with_reducible first | exact HB.out | apply below_alloc | apply pw_below_drewN | apply below_drew1) | exact HB.out)⟩⟩
    case rest =>
      clear HC6
      try clear c1
      try clear p2
      try clear c3
      try clear c5
      try clear c5b0
      try clear c5b1
      try clear c7
      try clear c7b0
      try clear c7b1
      try clear c8
      try clear c8b0
      try clear c9
      try clear c9b0
      try clear c10
      try clear c10b0
      obtain ⟨kq, x35_5, rfl, HA, HJ5, HB⟩ := hcut
      cases kq with
      | zero => exact absurd HA.out (by simp [laws_FnSgBegin.j0])
      | succ kj5 =>
        have H := HA.out
        clear HA
        simp only [laws_FnSgBegin.j0] at H
        by_cases c13 : x35_5 = true
        · subst c13
          have H1 : (some true) = some r := by rw [if_pos rfl] at H; exact H
          clear H
          have H := H1
          clear H1
          obtain rfl := Option.some.inj H
          go_wp2
          go_ret
          exact ⟨by first | rfl | (simp [errW_none, errW_some] <;> rfl) | (simp [*, errW_none, errW_some] <;> rfl), by repeat (first | (with_reducible first | exact HB.out | apply below_alloc | apply pw_below_drewN | apply below_drew1) | exact HB.out)⟩
        · replace c13 := Bool.eq_false_iff.mpr c13
          subst c13
          have H1 : ((spec_Complete.f kj5 a0 (wrap64 (32 - (wrap64 (a1)))) (wrap64 (32 - (wrap64 (a2)))) (wrap64 (32 - (wrap64 (a3))))).bind fun t137 => ((Given.SgBegin.f a0 (wrap64 (a1)) (wrap64 (a2)) (wrap64 (a3))).bind fun bt138 => ((Given.SgBegin.f (⟨#[121]⟩ : ByteArray) 0 0 0).bind fun bt140 => (if (bt138.2 == (decide (t137 > 0))) = true then (if bt138.2 = true then (if 0 ≤ t137 then (if t137 ≤ (a0.size : Int) then (if bt138.1.toList = (a0.extract (t137 : Int).toNat a0.size).toList then (if bt140.2 = true then (some (bt140.1.toList == ([] : List UInt8))) else (some false)) else (some false)) else (none)) else (none)) else (if bt140.2 = true then (some (bt140.1.toList == ([] : List UInt8))) else (some false))) else (some false))))) = some r := by rw [if_neg (show ¬ (false = true) by decide)] at H; exact H
          clear H
          have H := H1
          clear H1
          replace H := Option.bind_eq_some_iff.mp H
          obtain ⟨t137, A140, H⟩ := H
          replace H : ((Given.SgBegin.f a0 (wrap64 (a1)) (wrap64 (a2)) (wrap64 (a3))).bind fun bt138 => ((Given.SgBegin.f (⟨#[121]⟩ : ByteArray) 0 0 0).bind fun bt140 => (if (bt138.2 == (decide (t137 > 0))) = true then (if bt138.2 = true then (if 0 ≤ t137 then (if t137 ≤ (a0.size : Int) then (if bt138.1.toList = (a0.extract (t137 : Int).toNat a0.size).toList then (if bt140.2 = true then (some (bt140.1.toList == ([] : List UInt8))) else (some false)) else (some false)) else (none)) else (none)) else (if bt140.2 = true then (some (bt140.1.toList == ([] : List UInt8))) else (some false))) else (some false)))) = some r := H
          have A14 := Aside0.mk A140
          clear A140
          replace H := Option.bind_eq_some_iff.mp H
          obtain ⟨⟨t138, t139⟩, A150, H⟩ := H
          replace H : ((Given.SgBegin.f (⟨#[121]⟩ : ByteArray) 0 0 0).bind fun bt140 => (if (t139 == (decide (t137 > 0))) = true then (if t139 = true then (if 0 ≤ t137 then (if t137 ≤ (a0.size : Int) then (if t138.toList = (a0.extract (t137 : Int).toNat a0.size).toList then (if bt140.2 = true then (some (bt140.1.toList == ([] : List UInt8))) else (some false)) else (some false)) else (none)) else (none)) else (if bt140.2 = true then (some (bt140.1.toList == ([] : List UInt8))) else (some false))) else (some false))) = some r := H
          have A15 := Aside0.mk A150
          clear A150
          replace H := Option.bind_eq_some_iff.mp H
          obtain ⟨⟨t140, t141⟩, A160, H⟩ := H
          replace H : (if (t139 == (decide (t137 > 0))) = true then (if t139 = true then (if 0 ≤ t137 then (if t137 ≤ (a0.size : Int) then (if t138.toList = (a0.extract (t137 : Int).toNat a0.size).toList then (if t141 = true then (some (t140.toList == ([] : List UInt8))) else (some false)) else (some false)) else (none)) else (none)) else (if t141 = true then (some (t140.toList == ([] : List UInt8))) else (some false))) else (some false)) = some r := H
          have A16 := Aside0.mk A160
          clear A160
          by_cases c17 : (t139 == (decide (t137 > 0))) = true
          · rw [if_pos c17] at H
            have c17b0 : (t139 == (decide (t137 > 0))) = true := c17
            (try (have c17b1 : decide (t139 = (decide (t137 > 0))) = true := by simpa using c17))
            (try (have c17b2 : (t139 == (decide (t137 > 0))) = true := by simpa using c17))
            clear c17
            by_cases c18 : t139 = true
            · subst c18
              have H1 : (if 0 ≤ t137 then (if t137 ≤ (a0.size : Int) then (if t138.toList = (a0.extract (t137 : Int).toNat a0.size).toList then (if t141 = true then (some (t140.toList == ([] : List UInt8))) else (some false)) else (some false)) else (none)) else (none)) = some r := by rw [if_pos rfl] at H; exact H
              clear H
              have H := H1
              clear H1
              by_cases c19 : 0 ≤ t137
              · rw [if_pos c19] at H
                have c19b0 := eq_true c19
                have c19b1 : decide (0 ≤ t137) = true := decide_eq_true c19
                clear c19
                by_cases c20 : t137 ≤ (a0.size : Int)
                · rw [if_pos c20] at H
                  have c20b0 := eq_true c20
                  have c20b1 : decide (t137 ≤ (a0.size : Int)) = true := decide_eq_true c20
                  clear c20
                  by_cases c21 : t138.toList = (a0.extract (t137 : Int).toNat a0.size).toList
                  · rw [if_pos c21] at H
                    have c21b0 : (t138.toList == (a0.extract (t137 : Int).toNat a0.size).toList) = true := beq_iff_eq.mpr c21
                    have c21b1 : (t138.toList != (a0.extract (t137 : Int).toNat a0.size).toList) = false := bne_eq_false_iff_eq.mpr c21
                    clear c21
                    by_cases c22 : t141 = true
                    · subst c22
                      have H1 : (some (t140.toList == ([] : List UInt8))) = some r := by rw [if_pos rfl] at H; exact H
                      clear H
                      have H := H1
                      clear H1
                      obtain rfl := Option.some.inj H
                      go_wp2_with (first | ((with_reducible refine gate_callee (f := 10) rfl ?_); refine goesL_ (some 46) rfl rfl Try.func10 (by kernel_rfl) rfl #[.string a0, .int .i64 (wrap64 (32 - (wrap64 (a1)))), .int .i64 (wrap64 (32 - (wrap64 (a2)))), .int .i64 (wrap64 (32 - (wrap64 (a3))))] rfl (by (try simp only [List.map_toArray, List.map_cons, List.map_nil]); first | done | rfl | (simp only [List.length_drop, List.length_take]; rfl)) ?_; (with_reducible refine (spec_Complete.calls kj5 a0 (wrap64 (32 - (wrap64 (a1)))) (wrap64 (32 - (wrap64 (a2)))) (wrap64 (32 - (wrap64 (a3)))) t137 _ A14.out).mono ?_); rintro e w' ⟨rfl, ⟨nd, rfl⟩⟩; refine ⟨_, rfl, ?_⟩) | ((with_reducible refine gate_callee (f := 11) rfl ?_); refine goesL_ (some 55) rfl rfl Try.func11 (by kernel_rfl) rfl #[.string a0, .int .i64 (wrap64 (a1)), .int .i64 (wrap64 (a2)), .int .i64 (wrap64 (a3))] rfl (by (try simp only [List.map_toArray, List.map_cons, List.map_nil]); first | done | rfl | (simp only [List.length_drop, List.length_take]; rfl)) ?_; (with_reducible refine (Given.SgBegin.calls a0 (wrap64 (a1)) (wrap64 (a2)) (wrap64 (a3)) t138 true _ A15.out).mono ?_); rintro e w23 ⟨rfl, hb⟩; refine ⟨_, rfl, ?_⟩; have n0_ := Aside0.mk (below_step (by repeat (first | (with_reducible first | exact HB.out | apply below_alloc | apply pw_below_drewN | apply below_drew1) | exact HB.out)) hb); clear HB; have HB := n0_; clear n0_; (try clear hb); (try clear hb2); (try clear hk); (try clear hi)) | ((with_reducible refine gate_callee (f := 11) rfl ?_); refine goesL_ (some 59) rfl rfl Try.func11 (by kernel_rfl) rfl #[.string (⟨#[121]⟩ : ByteArray), .int .i64 0, .int .i64 0, .int .i64 0] rfl (by (try simp only [List.map_toArray, List.map_cons, List.map_nil]); first | done | rfl | (simp only [List.length_drop, List.length_take]; rfl)) ?_; (with_reducible refine (Given.SgBegin.calls (⟨#[121]⟩ : ByteArray) 0 0 0 t140 true _ A16.out).mono ?_); rintro e w24 ⟨rfl, hb⟩; refine ⟨_, rfl, ?_⟩; have n0_ := Aside0.mk (below_step (by repeat (first | (with_reducible first | exact HB.out | apply below_alloc | apply pw_below_drewN | apply below_drew1) | exact HB.out)) hb); clear HB; have HB := n0_; clear n0_; (try clear hb); (try clear hb2); (try clear hk); (try clear hi)))
                      go_ret
                      exact ⟨by first | rfl | (simp [errW_none, errW_some] <;> rfl) | (simp [*, errW_none, errW_some] <;> rfl), by repeat (first | (with_reducible first | exact HB.out | apply below_alloc | apply pw_below_drewN | apply below_drew1) | exact HB.out)⟩
                    · replace c22 := Bool.eq_false_iff.mpr c22
                      subst c22
                      have H1 : (some false) = some r := by rw [if_neg (show ¬ (false = true) by decide)] at H; exact H
                      clear H
                      have H := H1
                      clear H1
                      obtain rfl := Option.some.inj H
                      go_wp2_with (first | ((with_reducible refine gate_callee (f := 10) rfl ?_); refine goesL_ (some 46) rfl rfl Try.func10 (by kernel_rfl) rfl #[.string a0, .int .i64 (wrap64 (32 - (wrap64 (a1)))), .int .i64 (wrap64 (32 - (wrap64 (a2)))), .int .i64 (wrap64 (32 - (wrap64 (a3))))] rfl (by (try simp only [List.map_toArray, List.map_cons, List.map_nil]); first | done | rfl | (simp only [List.length_drop, List.length_take]; rfl)) ?_; (with_reducible refine (spec_Complete.calls kj5 a0 (wrap64 (32 - (wrap64 (a1)))) (wrap64 (32 - (wrap64 (a2)))) (wrap64 (32 - (wrap64 (a3)))) t137 _ A14.out).mono ?_); rintro e w' ⟨rfl, ⟨nd, rfl⟩⟩; refine ⟨_, rfl, ?_⟩) | ((with_reducible refine gate_callee (f := 11) rfl ?_); refine goesL_ (some 55) rfl rfl Try.func11 (by kernel_rfl) rfl #[.string a0, .int .i64 (wrap64 (a1)), .int .i64 (wrap64 (a2)), .int .i64 (wrap64 (a3))] rfl (by (try simp only [List.map_toArray, List.map_cons, List.map_nil]); first | done | rfl | (simp only [List.length_drop, List.length_take]; rfl)) ?_; (with_reducible refine (Given.SgBegin.calls a0 (wrap64 (a1)) (wrap64 (a2)) (wrap64 (a3)) t138 true _ A15.out).mono ?_); rintro e w25 ⟨rfl, hb⟩; refine ⟨_, rfl, ?_⟩; have n0_ := Aside0.mk (below_step (by repeat (first | (with_reducible first | exact HB.out | apply below_alloc | apply pw_below_drewN | apply below_drew1) | exact HB.out)) hb); clear HB; have HB := n0_; clear n0_; (try clear hb); (try clear hb2); (try clear hk); (try clear hi)) | ((with_reducible refine gate_callee (f := 11) rfl ?_); refine goesL_ (some 59) rfl rfl Try.func11 (by kernel_rfl) rfl #[.string (⟨#[121]⟩ : ByteArray), .int .i64 0, .int .i64 0, .int .i64 0] rfl (by (try simp only [List.map_toArray, List.map_cons, List.map_nil]); first | done | rfl | (simp only [List.length_drop, List.length_take]; rfl)) ?_; (with_reducible refine (Given.SgBegin.calls (⟨#[121]⟩ : ByteArray) 0 0 0 t140 false _ A16.out).mono ?_); rintro e w26 ⟨rfl, hb⟩; refine ⟨_, rfl, ?_⟩; have n0_ := Aside0.mk (below_step (by repeat (first | (with_reducible first | exact HB.out | apply below_alloc | apply pw_below_drewN | apply below_drew1) | exact HB.out)) hb); clear HB; have HB := n0_; clear n0_; (try clear hb); (try clear hb2); (try clear hk); (try clear hi)))
                      go_ret
                      exact ⟨by first | rfl | (simp [errW_none, errW_some] <;> rfl) | (simp [*, errW_none, errW_some] <;> rfl), by repeat (first | (with_reducible first | exact HB.out | apply below_alloc | apply pw_below_drewN | apply below_drew1) | exact HB.out)⟩
                  · rw [if_neg c21] at H
                    have c21b0 : (t138.toList == (a0.extract (t137 : Int).toNat a0.size).toList) = false := beq_eq_false_iff_ne.mpr c21
                    have c21b1 : (t138.toList != (a0.extract (t137 : Int).toNat a0.size).toList) = true := bne_iff_ne.mpr c21
                    obtain rfl := Option.some.inj H
                    go_wp2_with (first | ((with_reducible refine gate_callee (f := 10) rfl ?_); refine goesL_ (some 46) rfl rfl Try.func10 (by kernel_rfl) rfl #[.string a0, .int .i64 (wrap64 (32 - (wrap64 (a1)))), .int .i64 (wrap64 (32 - (wrap64 (a2)))), .int .i64 (wrap64 (32 - (wrap64 (a3))))] rfl (by (try simp only [List.map_toArray, List.map_cons, List.map_nil]); first | done | rfl | (simp only [List.length_drop, List.length_take]; rfl)) ?_; (with_reducible refine (spec_Complete.calls kj5 a0 (wrap64 (32 - (wrap64 (a1)))) (wrap64 (32 - (wrap64 (a2)))) (wrap64 (32 - (wrap64 (a3)))) t137 _ A14.out).mono ?_); rintro e w' ⟨rfl, ⟨nd, rfl⟩⟩; refine ⟨_, rfl, ?_⟩) | ((with_reducible refine gate_callee (f := 11) rfl ?_); refine goesL_ (some 55) rfl rfl Try.func11 (by kernel_rfl) rfl #[.string a0, .int .i64 (wrap64 (a1)), .int .i64 (wrap64 (a2)), .int .i64 (wrap64 (a3))] rfl (by (try simp only [List.map_toArray, List.map_cons, List.map_nil]); first | done | rfl | (simp only [List.length_drop, List.length_take]; rfl)) ?_; (with_reducible refine (Given.SgBegin.calls a0 (wrap64 (a1)) (wrap64 (a2)) (wrap64 (a3)) t138 true _ A15.out).mono ?_); rintro e w27 ⟨rfl, hb⟩; refine ⟨_, rfl, ?_⟩; have n0_ := Aside0.mk (below_step (by repeat (first | (with_reducible first | exact HB.out | apply below_alloc | apply pw_below_drewN | apply below_drew1) | exact HB.out)) hb); clear HB; have HB := n0_; clear n0_; (try clear hb); (try clear hb2); (try clear hk); (try clear hi)) | ((with_reducible refine gate_callee (f := 11) rfl ?_); refine goesL_ (some 59) rfl rfl Try.func11 (by kernel_rfl) rfl #[.string (⟨#[121]⟩ : ByteArray), .int .i64 0, .int .i64 0, .int .i64 0] rfl (by (try simp only [List.map_toArray, List.map_cons, List.map_nil]); first | done | rfl | (simp only [List.length_drop, List.length_take]; rfl)) ?_; (with_reducible refine (Given.SgBegin.calls (⟨#[121]⟩ : ByteArray) 0 0 0 t140 t141 _ A16.out).mono ?_); rintro e w28 ⟨rfl, hb⟩; refine ⟨_, rfl, ?_⟩; have n0_ := Aside0.mk (below_step (by repeat (first | (with_reducible first | exact HB.out | apply below_alloc | apply pw_below_drewN | apply below_drew1) | exact HB.out)) hb); clear HB; have HB := n0_; clear n0_; (try clear hb); (try clear hb2); (try clear hk); (try clear hi)))
                    go_ret
                    exact ⟨by first | rfl | (simp [errW_none, errW_some] <;> rfl) | (simp [*, errW_none, errW_some] <;> rfl), by repeat (first | (with_reducible first | exact HB.out | apply below_alloc | apply pw_below_drewN | apply below_drew1) | exact HB.out)⟩
                · rw [if_neg c20] at H
                  exact absurd H (by simp)
              · rw [if_neg c19] at H
                exact absurd H (by simp)
            · replace c18 := Bool.eq_false_iff.mpr c18
              subst c18
              have H1 : (if t141 = true then (some (t140.toList == ([] : List UInt8))) else (some false)) = some r := by rw [if_neg (show ¬ (false = true) by decide)] at H; exact H
              clear H
              have H := H1
              clear H1
              by_cases c29 : t141 = true
              · subst c29
                have H1 : (some (t140.toList == ([] : List UInt8))) = some r := by rw [if_pos rfl] at H; exact H
                clear H
                have H := H1
                clear H1
                obtain rfl := Option.some.inj H
                go_wp2_with (first | ((with_reducible refine gate_callee (f := 10) rfl ?_); refine goesL_ (some 46) rfl rfl Try.func10 (by kernel_rfl) rfl #[.string a0, .int .i64 (wrap64 (32 - (wrap64 (a1)))), .int .i64 (wrap64 (32 - (wrap64 (a2)))), .int .i64 (wrap64 (32 - (wrap64 (a3))))] rfl (by (try simp only [List.map_toArray, List.map_cons, List.map_nil]); first | done | rfl | (simp only [List.length_drop, List.length_take]; rfl)) ?_; (with_reducible refine (spec_Complete.calls kj5 a0 (wrap64 (32 - (wrap64 (a1)))) (wrap64 (32 - (wrap64 (a2)))) (wrap64 (32 - (wrap64 (a3)))) t137 _ A14.out).mono ?_); rintro e w' ⟨rfl, ⟨nd, rfl⟩⟩; refine ⟨_, rfl, ?_⟩) | ((with_reducible refine gate_callee (f := 11) rfl ?_); refine goesL_ (some 55) rfl rfl Try.func11 (by kernel_rfl) rfl #[.string a0, .int .i64 (wrap64 (a1)), .int .i64 (wrap64 (a2)), .int .i64 (wrap64 (a3))] rfl (by (try simp only [List.map_toArray, List.map_cons, List.map_nil]); first | done | rfl | (simp only [List.length_drop, List.length_take]; rfl)) ?_; (with_reducible refine (Given.SgBegin.calls a0 (wrap64 (a1)) (wrap64 (a2)) (wrap64 (a3)) t138 false _ A15.out).mono ?_); rintro e w30 ⟨rfl, hb⟩; refine ⟨_, rfl, ?_⟩; have n0_ := Aside0.mk (below_step (by repeat (first | (with_reducible first | exact HB.out | apply below_alloc | apply pw_below_drewN | apply below_drew1) | exact HB.out)) hb); clear HB; have HB := n0_; clear n0_; (try clear hb); (try clear hb2); (try clear hk); (try clear hi)) | ((with_reducible refine gate_callee (f := 11) rfl ?_); refine goesL_ (some 59) rfl rfl Try.func11 (by kernel_rfl) rfl #[.string (⟨#[121]⟩ : ByteArray), .int .i64 0, .int .i64 0, .int .i64 0] rfl (by (try simp only [List.map_toArray, List.map_cons, List.map_nil]); first | done | rfl | (simp only [List.length_drop, List.length_take]; rfl)) ?_; (with_reducible refine (Given.SgBegin.calls (⟨#[121]⟩ : ByteArray) 0 0 0 t140 true _ A16.out).mono ?_); rintro e w31 ⟨rfl, hb⟩; refine ⟨_, rfl, ?_⟩; have n0_ := Aside0.mk (below_step (by repeat (first | (with_reducible first | exact HB.out | apply below_alloc | apply pw_below_drewN | apply below_drew1) | exact HB.out)) hb); clear HB; have HB := n0_; clear n0_; (try clear hb); (try clear hb2); (try clear hk); (try clear hi)))
                go_ret
                exact ⟨by first | rfl | (simp [errW_none, errW_some] <;> rfl) | (simp [*, errW_none, errW_some] <;> rfl), by repeat (first | (with_reducible first | exact HB.out | apply below_alloc | apply pw_below_drewN | apply below_drew1) | exact HB.out)⟩
              · replace c29 := Bool.eq_false_iff.mpr c29
                subst c29
                have H1 : (some false) = some r := by rw [if_neg (show ¬ (false = true) by decide)] at H; exact H
                clear H
                have H := H1
                clear H1
                obtain rfl := Option.some.inj H
                go_wp2_with (first | ((with_reducible refine gate_callee (f := 10) rfl ?_); refine goesL_ (some 46) rfl rfl Try.func10 (by kernel_rfl) rfl #[.string a0, .int .i64 (wrap64 (32 - (wrap64 (a1)))), .int .i64 (wrap64 (32 - (wrap64 (a2)))), .int .i64 (wrap64 (32 - (wrap64 (a3))))] rfl (by (try simp only [List.map_toArray, List.map_cons, List.map_nil]); first | done | rfl | (simp only [List.length_drop, List.length_take]; rfl)) ?_; (with_reducible refine (spec_Complete.calls kj5 a0 (wrap64 (32 - (wrap64 (a1)))) (wrap64 (32 - (wrap64 (a2)))) (wrap64 (32 - (wrap64 (a3)))) t137 _ A14.out).mono ?_); rintro e w' ⟨rfl, ⟨nd, rfl⟩⟩; refine ⟨_, rfl, ?_⟩) | ((with_reducible refine gate_callee (f := 11) rfl ?_); refine goesL_ (some 55) rfl rfl Try.func11 (by kernel_rfl) rfl #[.string a0, .int .i64 (wrap64 (a1)), .int .i64 (wrap64 (a2)), .int .i64 (wrap64 (a3))] rfl (by (try simp only [List.map_toArray, List.map_cons, List.map_nil]); first | done | rfl | (simp only [List.length_drop, List.length_take]; rfl)) ?_; (with_reducible refine (Given.SgBegin.calls a0 (wrap64 (a1)) (wrap64 (a2)) (wrap64 (a3)) t138 false _ A15.out).mono ?_); rintro e w32 ⟨rfl, hb⟩; refine ⟨_, rfl, ?_⟩; have n0_ := Aside0.mk (below_step (by repeat (first | (with_reducible first | exact HB.out | apply below_alloc | apply pw_below_drewN | apply below_drew1) | exact HB.out)) hb); clear HB; have HB := n0_; clear n0_; (try clear hb); (try clear hb2); (try clear hk); (try clear hi)) | ((with_reducible refine gate_callee (f := 11) rfl ?_); refine goesL_ (some 59) rfl rfl Try.func11 (by kernel_rfl) rfl #[.string (⟨#[121]⟩ : ByteArray), .int .i64 0, .int .i64 0, .int .i64 0] rfl (by (try simp only [List.map_toArray, List.map_cons, List.map_nil]); first | done | rfl | (simp only [List.length_drop, List.length_take]; rfl)) ?_; (with_reducible refine (Given.SgBegin.calls (⟨#[121]⟩ : ByteArray) 0 0 0 t140 false _ A16.out).mono ?_); rintro e w33 ⟨rfl, hb⟩; refine ⟨_, rfl, ?_⟩; have n0_ := Aside0.mk (below_step (by repeat (first | (with_reducible first | exact HB.out | apply below_alloc | apply pw_below_drewN | apply below_drew1) | exact HB.out)) hb); clear HB; have HB := n0_; clear n0_; (try clear hb); (try clear hb2); (try clear hk); (try clear hi)))
                go_ret
                exact ⟨by first | rfl | (simp [errW_none, errW_some] <;> rfl) | (simp [*, errW_none, errW_some] <;> rfl), by repeat (first | (with_reducible first | exact HB.out | apply below_alloc | apply pw_below_drewN | apply below_drew1) | exact HB.out)⟩
          · rw [if_neg c17] at H
            have c17b0 : (t139 == (decide (t137 > 0))) = false := by simpa using c17
            (try (have c17b1 : decide (t139 = (decide (t137 > 0))) = false := by simpa using c17))
            (try (have c17b2 : (t139 == (decide (t137 > 0))) = false := by simpa using c17))
            (try (have c17b3 : ¬ (t139 = (decide (t137 > 0))) := by simpa using c17))
            clear c17
            obtain rfl := Option.some.inj H
            go_wp2_with (first | ((with_reducible refine gate_callee (f := 10) rfl ?_); refine goesL_ (some 46) rfl rfl Try.func10 (by kernel_rfl) rfl #[.string a0, .int .i64 (wrap64 (32 - (wrap64 (a1)))), .int .i64 (wrap64 (32 - (wrap64 (a2)))), .int .i64 (wrap64 (32 - (wrap64 (a3))))] rfl (by (try simp only [List.map_toArray, List.map_cons, List.map_nil]); first | done | rfl | (simp only [List.length_drop, List.length_take]; rfl)) ?_; (with_reducible refine (spec_Complete.calls kj5 a0 (wrap64 (32 - (wrap64 (a1)))) (wrap64 (32 - (wrap64 (a2)))) (wrap64 (32 - (wrap64 (a3)))) t137 _ A14.out).mono ?_); rintro e w' ⟨rfl, ⟨nd, rfl⟩⟩; refine ⟨_, rfl, ?_⟩) | ((with_reducible refine gate_callee (f := 11) rfl ?_); refine goesL_ (some 55) rfl rfl Try.func11 (by kernel_rfl) rfl #[.string a0, .int .i64 (wrap64 (a1)), .int .i64 (wrap64 (a2)), .int .i64 (wrap64 (a3))] rfl (by (try simp only [List.map_toArray, List.map_cons, List.map_nil]); first | done | rfl | (simp only [List.length_drop, List.length_take]; rfl)) ?_; (with_reducible refine (Given.SgBegin.calls a0 (wrap64 (a1)) (wrap64 (a2)) (wrap64 (a3)) t138 t139 _ A15.out).mono ?_); rintro e w34 ⟨rfl, hb⟩; refine ⟨_, rfl, ?_⟩; have n0_ := Aside0.mk (below_step (by repeat (first | (with_reducible first | exact HB.out | apply below_alloc | apply pw_below_drewN | apply below_drew1) | exact HB.out)) hb); clear HB; have HB := n0_; clear n0_; (try clear hb); (try clear hb2); (try clear hk); (try clear hi)) | ((with_reducible refine gate_callee (f := 11) rfl ?_); refine goesL_ (some 59) rfl rfl Try.func11 (by kernel_rfl) rfl #[.string (⟨#[121]⟩ : ByteArray), .int .i64 0, .int .i64 0, .int .i64 0] rfl (by (try simp only [List.map_toArray, List.map_cons, List.map_nil]); first | done | rfl | (simp only [List.length_drop, List.length_take]; rfl)) ?_; (with_reducible refine (Given.SgBegin.calls (⟨#[121]⟩ : ByteArray) 0 0 0 t140 t141 _ A16.out).mono ?_); rintro e w35 ⟨rfl, hb⟩; refine ⟨_, rfl, ?_⟩; have n0_ := Aside0.mk (below_step (by repeat (first | (with_reducible first | exact HB.out | apply below_alloc | apply pw_below_drewN | apply below_drew1) | exact HB.out)) hb); clear HB; have HB := n0_; clear n0_; (try clear hb); (try clear hb2); (try clear hk); (try clear hi)))
            go_ret
            exact ⟨by first | rfl | (simp [errW_none, errW_some] <;> rfl) | (simp [*, errW_none, errW_some] <;> rfl), by repeat (first | (with_reducible first | exact HB.out | apply below_alloc | apply pw_below_drewN | apply below_drew1) | exact HB.out)⟩

/-- THE ONE PURE STATEMENT of laws_FnSgBegin: yours. -/
def laws_FnSgBegin.Pure : Prop := ∀ (a0 : ByteArray) (a1 : Int) (a2 : Int) (a3 : Int), a0.size ≤ 140737488351232 → (Lit.int .u8 a1).wf = true → (Lit.int .u8 a2).wf = true → (Lit.int .u8 a3).wf = true → ∃ k, laws_FnSgBegin.f k a0 a1 a2 a3 = some true
theorem laws_FnSgBegin.walk (P : laws_FnSgBegin.Pure) (a0 : ByteArray) (a1 : Int) (a2 : Int) (a3 : Int) (w : World) (w0 : a0.size ≤ 140737488351232) (w1 : (Lit.int .u8 a1).wf = true) (w2 : (Lit.int .u8 a2).wf = true) (w3 : (Lit.int .u8 a3).wf = true) :
    Calls Try.prog 3 #[.string a0, .int .u8 a1, .int .u8 a2, .int .u8 a3] w fun e w' => e = .returned (.bool true) ∧ Below w.heap.size w w' := by
  obtain ⟨k, h⟩ := P a0 a1 a2 a3 w0 w1 w2 w3
  refine (laws_FnSgBegin.calls k a0 a1 a2 a3 true w h).mono ?_
  rintro e w' ⟨rfl, hd⟩
  exact ⟨rfl, hd⟩

/-! ### spec_complete: function 24 -/
def spec_complete.f (k : Nat) (a0 : ByteArray) : Option (Int) := (spec_Complete.f k a0 32 32 32).bind fun t142 => (some t142)
theorem spec_complete.mono : ∀ a0 k, LeO (spec_complete.f k a0) (spec_complete.f (k + 1) a0) := by
  intro a0 k
  unfold spec_complete.f
  repeat' first
      | (with_reducible exact spec_Complete.mono _ _ _ _ _)
      | (with_reducible exact LeO.refl _)
      | (with_reducible exact LeO.none _)
      | (with_reducible refine LeO.ite ?_ ?_)
      | (with_reducible refine LeO.bind ?_ (fun _ => ?_))
      | exact spec_Complete.mono _ _ _ _ _
      | exact LeO.none _
      | refine LeO.ite ?_ ?_
      | refine LeO.bind ?_ (fun _ => ?_)
set_option maxHeartbeats 8000000 in
set_option maxRecDepth 100000 in
theorem spec_complete.calls (k : Nat) (a0 : ByteArray) (r : Int) (w : World) (h : spec_complete.f k a0 = some r) :
    Calls Try.prog 24 #[.string a0] w fun e w' => e = .returned (.int .i64 r) ∧ Drawn0 w w' := by
  have H : ((spec_Complete.f k a0 32 32 32).bind fun t142 => (some t142)) = some r := h
  clear h
  replace H := Option.bind_eq_some_iff.mp H
  obtain ⟨t142, A20, H⟩ := H
  replace H : (some t142) = some r := H
  have A2 := Aside0.mk A20
  clear A20
  obtain rfl := Option.some.inj H
  go_enter Try.func24, Try.ntmps24
  go_wp2_with (first | ((with_reducible refine gate_callee (f := 10) rfl ?_); refine goesL_ (some 4) rfl rfl Try.func10 (by kernel_rfl) rfl #[.string a0, .int .i64 32, .int .i64 32, .int .i64 32] rfl (by (try simp only [List.map_toArray, List.map_cons, List.map_nil]); first | done | rfl | (simp only [List.length_drop, List.length_take]; rfl)) ?_; (with_reducible refine (spec_Complete.calls k a0 32 32 32 t142 _ A2.out).mono ?_); rintro e w' ⟨rfl, ⟨nd, rfl⟩⟩; refine ⟨_, rfl, ?_⟩))
  go_ret
  exact ⟨by first | rfl | (simp; done) | (simp [*]; done), by repeat (first | exact Drawn0.refl _ | apply Drawn0.step)⟩

/-! ### spec_Types: function 15 -/
def spec_Types.l0 : Nat → ByteArray → List ByteArray → Option (List ByteArray × Bool)
  | 0, _, _ => none
  | k + 1, x0, x4 => if x0.toList = ([] : List UInt8) then (some (x4, true)) else ((spec_complete.f k x0).bind fun t143 => (if t143 = 0 then (some (([] : List ByteArray), false)) else (if 0 ≤ t143 then (if t143 ≤ (x0.size : Int) then (if x4.length < 8796093022208 then (spec_Types.l0 k (x0.extract (t143 : Int).toNat x0.size) (x4 ++ [x0.extract 0 (t143 : Int).toNat])) else (none)) else (none)) else (none))))
def spec_Types.f (k : Nat) (a0 : ByteArray) : Option (List ByteArray × Bool) := if (a0.size : Int) > 255 then (some (([] : List ByteArray), false)) else (spec_Types.l0 k a0 ([] : List ByteArray))
theorem spec_Types.mono_l : ∀ k, (∀ y0 y1, LeO (spec_Types.l0 k y0 y1) (spec_Types.l0 (k + 1) y0 y1))
  | 0 => fun _ _ r h => by simp [spec_Types.l0] at h
  | k + 1 => by
    have ih0 := spec_Types.mono_l k
    · intro y0 y1
      unfold spec_Types.l0
      repeat' first
      | (with_reducible exact ih0 _ _)
      | (with_reducible exact spec_complete.mono _ _)
      | (with_reducible exact LeO.refl _)
      | (with_reducible exact LeO.none _)
      | (with_reducible refine LeO.ite ?_ ?_)
      | (with_reducible refine LeO.bind ?_ (fun _ => ?_))
      | exact ih0 _ _
      | exact spec_complete.mono _ _
      | exact LeO.none _
      | refine LeO.ite ?_ ?_
      | refine LeO.bind ?_ (fun _ => ?_)
theorem spec_Types.mono : ∀ a0 k, LeO (spec_Types.f k a0) (spec_Types.f (k + 1) a0) := by
  intro a0 k
  have ih0 := spec_Types.mono_l k
  unfold spec_Types.f
  repeat' first
      | (with_reducible exact ih0 _ _)
      | (with_reducible exact spec_complete.mono _ _)
      | (with_reducible exact LeO.refl _)
      | (with_reducible exact LeO.none _)
      | (with_reducible refine LeO.ite ?_ ?_)
      | (with_reducible refine LeO.bind ?_ (fun _ => ?_))
      | exact ih0 _ _
      | exact spec_complete.mono _ _
      | exact LeO.none _
      | refine LeO.ite ?_ ?_
      | refine LeO.bind ?_ (fun _ => ?_)
set_option maxHeartbeats 8000000 in
set_option maxRecDepth 100000 in
theorem spec_Types.calls (k : Nat) (a0 : ByteArray) (r1 : List ByteArray) (r2 : Bool) (w : World) (h : spec_Types.f k a0 = some (r1, r2)) :
    Calls Try.prog 15 #[.string a0] w fun e w' => ∃ v0_ : Value, e = .returned (.tuple #[v0_, .bool r2]) ∧ Kd.R Kd.string 9 w' w.heap.size (fun _ => True) v0_ r1 ∧ Below w.heap.size w w' := by
  have HB := Aside0.mk (Below.refl w.heap.size w)
  have H : (if (a0.size : Int) > 255 then (some (([] : List ByteArray), false)) else (spec_Types.l0 k a0 ([] : List ByteArray))) = some (r1, r2) := h
  clear h
  by_cases c2 : (a0.size : Int) > 255
  · rw [if_pos c2] at H
    have c2b0 : decide (255 < (a0.size : Int)) = true := decide_eq_true c2
    have c2b1 : decide (255 < a0.size) = true := decide_eq_true (by omega)
    clear c2
    simp only [Option.some.injEq, Prod.mk.injEq] at H
    obtain ⟨rfl, rfl⟩ := H
    go_enter Try.func15, Try.ntmps15
    go_wp2
    go_ret2
    exact ⟨_, by first | rfl | (simp [errW_none, errW_some] <;> rfl) | (simp [*, errW_none, errW_some] <;> rfl), by first | exact Kd.R_nil _ _ _ _ _ | exact Kd.N_nil _ _ _ _ _ | exact Kd.V_nil _ _ _ _ _ | exact Kd.Q_nil _ _ _ _ _ | exact Kd.S_nil _ _ _ _ _, by repeat (first | (with_reducible first | exact HB.out | apply below_alloc | apply pw_below_drewN | apply below_drew1) | exact HB.out)⟩
  · rw [if_neg c2] at H
    have c2b0 : decide (255 < (a0.size : Int)) = false := decide_eq_false c2
    have c2b1 : decide (255 < a0.size) = false := decide_eq_false (by omega)
    clear c2
    have H' := Aside0.mk H
    clear H
    go_enter Try.func15, Try.ntmps15
    go_wp2
    go_loopg [0, 4] k (fun kq v0 v4 w' => ∃ (x0_1 : ByteArray) (x4_1 : List ByteArray), v0 = .string x0_1 ∧ Aside0 (spec_Types.l0 kq x0_1 x4_1 = some (r1, r2)) ∧ Aside0 (kq ≤ k) ∧ Aside0 (Kd.R Kd.string 9 w' w.heap.size (fun _ => True) v4 x4_1) ∧ Aside0 (Below w.heap.size w w'))
    case atStart => exact ⟨(a0), (([] : List ByteArray)), (by first | rfl | (simp; done) | (simp [*]; done)), H', ⟨Nat.le_refl _⟩, ⟨by first | exact Kd.R_nil _ _ _ _ _ | exact Kd.N_nil _ _ _ _ _ | exact Kd.V_nil _ _ _ _ _ | exact Kd.Q_nil _ _ _ _ _ | exact Kd.S_nil _ _ _ _ _⟩, ⟨by repeat (first | (with_reducible first | exact HB.out | apply below_alloc | apply pw_below_drewN | apply below_drew1) | exact HB.out)⟩⟩
    case round =>
      clear H'
      try clear c1
      try clear c2
      try clear c2b0
      try clear c2b1
      try clear p2
      obtain ⟨x0_1, x4_1, rfl, HA, HK1, HO_4, HB⟩ := hrel
      cases gk with
      | zero => exact absurd HA.out (by simp [spec_Types.l0])
      | succ k1 =>
        have H := HA.out
        clear HA
        simp only [spec_Types.l0] at H
        by_cases c3 : x0_1.toList = ([] : List UInt8)
        · rw [if_pos c3] at H
          have c3b0 : (x0_1.toList == ([] : List UInt8)) = true := beq_iff_eq.mpr c3
          have c3b1 : (x0_1.toList != ([] : List UInt8)) = false := bne_eq_false_iff_eq.mpr c3
          clear c3
          simp only [Option.some.injEq, Prod.mk.injEq] at H
          obtain ⟨rfl, rfl⟩ := H
          go_wp2
          go_ret2
          exact ⟨_, by first | rfl | (simp [errW_none, errW_some] <;> rfl) | (simp [*, errW_none, errW_some] <;> rfl), by (with_reducible repeat (first | apply Kd.R_alloc | apply Kd.R_drewN | apply Kd.R_drew)); exact HO_4.out, by repeat (first | (with_reducible first | exact HB.out | apply below_alloc | apply pw_below_drewN | apply below_drew1) | exact HB.out)⟩
        · rw [if_neg c3] at H
          have c3b0 : (x0_1.toList == ([] : List UInt8)) = false := beq_eq_false_iff_ne.mpr c3
          have c3b1 : (x0_1.toList != ([] : List UInt8)) = true := bne_iff_ne.mpr c3
          replace H := Option.bind_eq_some_iff.mp H
          obtain ⟨t143, A40, H⟩ := H
          replace H : (if t143 = 0 then (some (([] : List ByteArray), false)) else (if 0 ≤ t143 then (if t143 ≤ (x0_1.size : Int) then (if x4_1.length < 8796093022208 then (spec_Types.l0 k1 (x0_1.extract (t143 : Int).toNat x0_1.size) (x4_1 ++ [x0_1.extract 0 (t143 : Int).toNat])) else (none)) else (none)) else (none))) = some (r1, r2) := H
          have A4 := Aside0.mk A40
          clear A40
          by_cases c5 : t143 = 0
          · rw [if_pos c5] at H
            have c5b0 : (t143 == 0) = true := beq_iff_eq.mpr c5
            have c5b1 : (t143 != 0) = false := bne_eq_false_iff_eq.mpr c5
            clear c5
            simp only [Option.some.injEq, Prod.mk.injEq] at H
            obtain ⟨rfl, rfl⟩ := H
            go_wp2_with (first | ((with_reducible refine gate_callee (f := 24) rfl ?_); refine goesL_ (some 12) rfl rfl Try.func24 (by kernel_rfl) rfl #[.string x0_1] rfl (by (try simp only [List.map_toArray, List.map_cons, List.map_nil]); first | done | rfl | (simp only [List.length_drop, List.length_take]; rfl)) ?_; (with_reducible refine (spec_complete.calls k1 x0_1 t143 _ A4.out).mono ?_); rintro e w' ⟨rfl, ⟨nd, rfl⟩⟩; refine ⟨_, rfl, ?_⟩))
            go_ret2
            exact ⟨_, by first | rfl | (simp [errW_none, errW_some] <;> rfl) | (simp [*, errW_none, errW_some] <;> rfl), by first | exact Kd.R_nil _ _ _ _ _ | exact Kd.N_nil _ _ _ _ _ | exact Kd.V_nil _ _ _ _ _ | exact Kd.Q_nil _ _ _ _ _ | exact Kd.S_nil _ _ _ _ _, by repeat (first | (with_reducible first | exact HB.out | apply below_alloc | apply pw_below_drewN | apply below_drew1) | exact HB.out)⟩
          · rw [if_neg c5] at H
            have c5b0 : (t143 == 0) = false := beq_eq_false_iff_ne.mpr c5
            have c5b1 : (t143 != 0) = true := bne_iff_ne.mpr c5
            by_cases c6 : 0 ≤ t143
            · rw [if_pos c6] at H
              have c6b0 := eq_true c6
              have c6b1 : decide (0 ≤ t143) = true := decide_eq_true c6
              clear c6
              by_cases c7 : t143 ≤ (x0_1.size : Int)
              · rw [if_pos c7] at H
                have c7b0 := eq_true c7
                have c7b1 : decide (t143 ≤ (x0_1.size : Int)) = true := decide_eq_true c7
                clear c7
                by_cases c8 : x4_1.length < 8796093022208
                · rw [if_pos c8] at H
                  have LMc8 := Aside0.mk c8
                  clear c8
                  obtain ⟨y144, hy144⟩ : ∃ y_ : List ByteArray, y_ = (x4_1 ++ [x0_1.extract 0 (t143 : Int).toNat]) := ⟨_, rfl⟩
                  replace H : (spec_Types.l0 k1 (x0_1.extract (t143 : Int).toNat x0_1.size) y144) = some (r1, r2) := by first | (rw [hy144]; with_reducible exact H) | (have H2_ := (Option.bind_some _ _).symm.trans H; rw [hy144]; with_reducible exact H2_) | (have H2_ := (Option.bind_some _ _).symm.trans H; with_reducible exact H2_) | with_reducible exact H | (rw [hy144]; exact H) | exact H
                  have Ny144 := Aside0.mk hy144
                  clear hy144
                  have c9b0 := eq_true (of_decide_eq_true (by first | (with_reducible assumption) | assumption) : 0 ≤ t143)
                  have c10b0 := eq_true (of_decide_eq_true (by first | (with_reducible assumption) | assumption) : t143 ≤ (x0_1.size : Int))
                  have H' := Aside0.mk H
                  clear H
                  go_wp2_with (first | ((with_reducible refine gate_callee (f := 24) rfl ?_); refine goesL_ (some 12) rfl rfl Try.func24 (by kernel_rfl) rfl #[.string x0_1] rfl (by (try simp only [List.map_toArray, List.map_cons, List.map_nil]); first | done | rfl | (simp only [List.length_drop, List.length_take]; rfl)) ?_; (with_reducible refine (spec_complete.calls k1 x0_1 t143 _ A4.out).mono ?_); rintro e w' ⟨rfl, ⟨nd, rfl⟩⟩; refine ⟨_, rfl, ?_⟩) | ((with_reducible refine gate_builtin (b := .append) (xs := #[.tmp 15, .tmp 19]) rfl ?_); at_builtin; refine Kd.R_append Kd.string (w0 := w) w.heap.size rfl (.tmp 15) (.tmp 19) 33 9 (.string ⟨#[]⟩) 16 rfl Try.underlying33 info9 rfl (by decide) (by omega) u4 x4_1 (x0_1.extract 0 (t143 : Int).toNat) [.string (x0_1.extract 0 (t143 : Int).toNat)] (fun _ => True) (fun _ => False) rfl rfl ?aP (fun _ hk => hk.elim) ?aF ?aO ?aB ?aS ?aL ?_; (case aP => exact rfl); (case aB => exact (by repeat (first | (with_reducible first | exact HB.out | apply below_alloc | apply pw_below_drewN | apply below_drew1) | exact HB.out))); (case aF => exact (fun _ _ => trivial)); (case aO => exact (by (with_reducible repeat (first | apply Kd.R_alloc | apply Kd.R_drewN | apply Kd.R_drew)); exact HO_4.out)); (case aS => exact (below_size (by repeat (first | (with_reducible first | exact HB.out | apply below_alloc | apply pw_below_drewN | apply below_drew1) | exact HB.out)))); (case aL => have := LMc8.out; omega); intro v145 w11 ho hb hg hat; rw [← Ny144.out] at ho; have n0_ := Aside0.mk (hb); have n1_ := Aside0.mk (ho); clear HB; clear HO_4; have HB := n0_; have HO146 := n1_; clear n0_ n1_; clear ho hb hg hat))
                  go_roundg k1
                  case measure => have := HK1.out; omega
                  case rel => exact ⟨(x0_1.extract (t143 : Int).toNat x0_1.size), (y144), (by first | rfl | (simp; done) | (simp [*]; done)), H', ⟨by have := HK1.out; omega⟩, ⟨by (with_reducible repeat (first | apply Kd.R_alloc | apply Kd.R_drewN | apply Kd.R_drew)); exact HO146.out⟩, ⟨by repeat (first | (with_reducible first | exact HB.out | apply below_alloc | apply pw_below_drewN | apply below_drew1) | exact HB.out)⟩⟩
                · rw [if_neg c8] at H
                  exact absurd H (by simp)
              · rw [if_neg c7] at H
                exact absurd H (by simp)
            · rw [if_neg c6] at H
              exact absurd H (by simp)

/-! ### laws_sgWalk: function 16 -/
def laws_sgWalk.l0 : Nat → ByteArray → List ByteArray → Int → Int → Option (Bool)
  | 0, _, _, _, _ => none
  | k + 1, x0, x18, x19, x20 => if x20 < x19 then (if 0 ≤ x20 then (if x20 < (x18.length : Int) then ((Given.SgBegin.f x0 0 0 0).bind fun bt150 => (if bt150.2 = true then (if (bt150.1.size : Int) ≥ (x0.size : Int) then (some false) else (if 0 ≤ (wrap64 ((x0.size : Int) - (bt150.1.size : Int))) then (if (wrap64 ((x0.size : Int) - (bt150.1.size : Int))) ≤ (x0.size : Int) then (if (x0.extract 0 ((wrap64 ((x0.size : Int) - (bt150.1.size : Int))) : Int).toNat).toList = (rdOf ByteArray.empty x18 x20).toList then (laws_sgWalk.l0 k bt150.1 x18 x19 (wrap64 (x20 + 1))) else (some false)) else (none)) else (none))) else (some false))) else (none)) else (none)) else (some (x0.toList == ([] : List UInt8)))
def laws_sgWalk.f (k : Nat) (a0 : ByteArray) (l1 : List ByteArray) : Option (Bool) := (Given.SgParse.f a0).bind fun bt147 => (if bt147.2 = true then (laws_sgWalk.l0 k a0 l1 (l1.length : Int) 0) else (some false))
theorem laws_sgWalk.mono_l : ∀ k, (∀ y0 y1 y2 y3, LeO (laws_sgWalk.l0 k y0 y1 y2 y3) (laws_sgWalk.l0 (k + 1) y0 y1 y2 y3))
  | 0 => fun _ _ _ _ r h => by simp [laws_sgWalk.l0] at h
  | k + 1 => by
    have ih0 := laws_sgWalk.mono_l k
    · intro y0 y1 y2 y3
      unfold laws_sgWalk.l0
      repeat' first
      | (with_reducible exact ih0 _ _ _ _)
      | (with_reducible exact LeO.refl _)
      | (with_reducible exact LeO.none _)
      | (with_reducible refine LeO.ite ?_ ?_)
      | (with_reducible refine LeO.bind ?_ (fun _ => ?_))
      | exact ih0 _ _ _ _
      | exact LeO.none _
      | refine LeO.ite ?_ ?_
      | refine LeO.bind ?_ (fun _ => ?_)
theorem laws_sgWalk.mono : ∀ a0 a1 k, LeO (laws_sgWalk.f k a0 a1) (laws_sgWalk.f (k + 1) a0 a1) := by
  intro a0 a1 k
  have ih0 := laws_sgWalk.mono_l k
  unfold laws_sgWalk.f
  repeat' first
      | (with_reducible exact ih0 _ _ _ _)
      | (with_reducible exact LeO.refl _)
      | (with_reducible exact LeO.none _)
      | (with_reducible refine LeO.ite ?_ ?_)
      | (with_reducible refine LeO.bind ?_ (fun _ => ?_))
      | exact ih0 _ _ _ _
      | exact LeO.none _
      | refine LeO.ite ?_ ?_
      | refine LeO.bind ?_ (fun _ => ?_)
set_option maxHeartbeats 8000000 in
set_option maxRecDepth 100000 in
theorem laws_sgWalk.calls (k : Nat) (a0 : ByteArray) (A1 : Option Addr) (c1 : Nat) (l1 : List ByteArray) (r : Bool) (w : World) (hr1 : Kd.C Kd.string w A1 l1.length l1) (hc1 : l1.length ≤ c1) (h : laws_sgWalk.f k a0 l1 = some r) :
    Calls Try.prog 16 #[.string a0, .slice A1 l1.length c1] w fun e w' => e = .returned (.bool r) ∧ Below w.heap.size w w' := by
  have HR1 := Aside0.mk hr1
  have HC1 := Aside0.mk hc1
  clear hr1 hc1
  have HB := Aside0.mk (Below.refl w.heap.size w)
  have H : ((Given.SgParse.f a0).bind fun bt147 => (if bt147.2 = true then (laws_sgWalk.l0 k a0 l1 (l1.length : Int) 0) else (some false))) = some r := h
  clear h
  replace H := Option.bind_eq_some_iff.mp H
  obtain ⟨⟨t147, t148⟩, A30, H⟩ := H
  replace H : (if t148 = true then (laws_sgWalk.l0 k a0 l1 (l1.length : Int) 0) else (some false)) = some r := H
  have A3 := Aside0.mk A30
  clear A30
  by_cases c4 : t148 = true
  · subst c4
    have H1 : (laws_sgWalk.l0 k a0 l1 (l1.length : Int) 0) = some r := by rw [if_pos rfl] at H; exact H
    clear H
    have H := H1
    clear H1
    have H' := Aside0.mk H
    clear H
    go_enter Try.func16, Try.ntmps16
    go_wp2_with (first | ((with_reducible refine gate_callee (f := 14) rfl ?_); refine goesL_ (some 13) rfl rfl Try.func14 (by kernel_rfl) rfl #[.string a0] rfl (by (try simp only [List.map_toArray, List.map_cons, List.map_nil]); first | done | rfl | (simp only [List.length_drop, List.length_take]; rfl)) ?_; (with_reducible refine (Given.SgParse.calls a0 t147 true _ A3.out).mono ?_); rintro e w5 ⟨rfl, hb⟩; refine ⟨_, rfl, ?_⟩; have n0_ := Aside0.mk (below_step (by repeat (first | (with_reducible first | exact HB.out | apply below_alloc | apply pw_below_drewN | apply below_drew1) | exact HB.out)) hb); clear HB; have HB := n0_; clear n0_; (try clear hb); (try clear hb2); (try clear hk); (try clear hi)))
    go_loopg [0, 20] k (fun kq v0 v20 w' => ∃ (x0_1 : ByteArray) (x20_1 : Int), v0 = .string x0_1 ∧ v20 = .int .i64 x20_1 ∧ Aside0 (laws_sgWalk.l0 kq x0_1 l1 (l1.length : Int) x20_1 = some r) ∧ Aside0 (kq ≤ k) ∧ Aside0 (Below w.heap.size w w'))
    case atStart => exact ⟨(a0), (0), (by first | rfl | (simp; done) | (simp [*]; done)), (by first | rfl | (simp; done) | (simp [*]; done)), H', ⟨Nat.le_refl _⟩, ⟨by repeat (first | (with_reducible first | exact HB.out | apply below_alloc | apply pw_below_drewN | apply below_drew1) | exact HB.out)⟩⟩
    case round =>
      clear H'
      try clear c1
      try clear p2
      try clear c4
      obtain ⟨x0_1, x20_1, rfl, rfl, HA, HK1, HB⟩ := hrel
      cases gk with
      | zero => exact absurd HA.out (by simp [laws_sgWalk.l0])
      | succ k1 =>
        have H := HA.out
        clear HA
        simp only [laws_sgWalk.l0] at H
        by_cases c6 : x20_1 < (l1.length : Int)
        · rw [if_pos c6] at H
          have c6b0 : decide (x20_1 < (l1.length : Int)) = true := decide_eq_true c6
          clear c6
          by_cases c7 : 0 ≤ x20_1
          · rw [if_pos c7] at H
            have c7b0 : decide (0 ≤ x20_1) = true := decide_eq_true c7
            clear c7
            by_cases c8 : x20_1 < (l1.length : Int)
            · rw [if_pos c8] at H
              have c8b0 : decide (x20_1 < (l1.length : Int)) = true := decide_eq_true c8
              clear c8
              replace H := Option.bind_eq_some_iff.mp H
              obtain ⟨⟨t150, t151⟩, A90, H⟩ := H
              replace H : (if t151 = true then (if (t150.size : Int) ≥ (x0_1.size : Int) then (some false) else (if 0 ≤ (wrap64 ((x0_1.size : Int) - (t150.size : Int))) then (if (wrap64 ((x0_1.size : Int) - (t150.size : Int))) ≤ (x0_1.size : Int) then (if (x0_1.extract 0 ((wrap64 ((x0_1.size : Int) - (t150.size : Int))) : Int).toNat).toList = (rdOf ByteArray.empty l1 x20_1).toList then (laws_sgWalk.l0 k1 t150 l1 (l1.length : Int) (wrap64 (x20_1 + 1))) else (some false)) else (none)) else (none))) else (some false)) = some r := H
              have A9 := Aside0.mk A90
              clear A90
              by_cases c10 : t151 = true
              · subst c10
                have H1 : (if (t150.size : Int) ≥ (x0_1.size : Int) then (some false) else (if 0 ≤ (wrap64 ((x0_1.size : Int) - (t150.size : Int))) then (if (wrap64 ((x0_1.size : Int) - (t150.size : Int))) ≤ (x0_1.size : Int) then (if (x0_1.extract 0 ((wrap64 ((x0_1.size : Int) - (t150.size : Int))) : Int).toNat).toList = (rdOf ByteArray.empty l1 x20_1).toList then (laws_sgWalk.l0 k1 t150 l1 (l1.length : Int) (wrap64 (x20_1 + 1))) else (some false)) else (none)) else (none))) = some r := by rw [if_pos rfl] at H; exact H
                clear H
                have H := H1
                clear H1
                by_cases c11 : (t150.size : Int) ≥ (x0_1.size : Int)
                · rw [if_pos c11] at H
                  have c11b0 : decide ((x0_1.size : Int) ≤ (t150.size : Int)) = true := decide_eq_true c11
                  have c11b1 : decide (x0_1.size ≤ t150.size) = true := decide_eq_true (Int.ofNat_le.mp c11)
                  clear c11
                  obtain rfl := Option.some.inj H
                  have p149 : 0 ≤ (x20_1 : Int) := of_decide_eq_true (by first | (with_reducible assumption) | assumption)
                  have q149 : x20_1 < (l1.length : Int) := of_decide_eq_true (by first | (with_reducible assumption) | assumption)
                  obtain ⟨ad149, e149, hx149_0⟩ := Kd.at_string HR1.out x20_1 p149 q149
                  cases e149
                  replace hx149_0 := (HB.out.cell (World.block_lt_of_cell? w _ hx149_0)).trans hx149_0
                  replace p149 := eq_true p149
                  replace q149 := eq_true q149
                  go_wp2_with (first | ((with_reducible refine gate_callee (f := 11) rfl ?_); refine goesL_ (some 26) rfl rfl Try.func11 (by kernel_rfl) rfl #[.string x0_1, .int .i64 0, .int .i64 0, .int .i64 0] rfl (by (try simp only [List.map_toArray, List.map_cons, List.map_nil]); first | done | rfl | (simp only [List.length_drop, List.length_take]; rfl)) ?_; (with_reducible refine (Given.SgBegin.calls x0_1 0 0 0 t150 true _ A9.out).mono ?_); rintro e w12 ⟨rfl, hb⟩; refine ⟨_, rfl, ?_⟩; have n0_ := Aside0.mk (below_step (by repeat (first | (with_reducible first | exact HB.out | apply below_alloc | apply pw_below_drewN | apply below_drew1) | exact HB.out)) hb); clear HB; have HB := n0_; clear n0_; (try clear hb); (try clear hb2); (try clear hk); (try clear hi)))
                  go_ret
                  exact ⟨by first | rfl | (simp [errW_none, errW_some] <;> rfl) | (simp [*, errW_none, errW_some] <;> rfl), by repeat (first | (with_reducible first | exact HB.out | apply below_alloc | apply pw_below_drewN | apply below_drew1) | exact HB.out)⟩
                · rw [if_neg c11] at H
                  have c11b0 : decide ((x0_1.size : Int) ≤ (t150.size : Int)) = false := decide_eq_false c11
                  have c11b1 : decide (x0_1.size ≤ t150.size) = false := decide_eq_false (fun h => c11 (Int.ofNat_le.mpr h))
                  clear c11
                  obtain ⟨ji13, hji13⟩ : ∃ j_ : Int, (wrap64 ((x0_1.size : Int) - (t150.size : Int))) = j_ := ⟨_, rfl⟩
                  replace H : (if 0 ≤ (ji13) then (if (ji13) ≤ (x0_1.size : Int) then (if (x0_1.extract 0 ((ji13) : Int).toNat).toList = (rdOf ByteArray.empty l1 x20_1).toList then (laws_sgWalk.l0 k1 t150 l1 (l1.length : Int) (wrap64 (x20_1 + 1))) else (some false)) else (none)) else (none)) = some r := by first | (rw [hji13] at H; exact H) | (simp only [hji13] at H ⊢; exact H)
                  (try rw [hji13] at A9)
                  have hji13w : (IntKind.i64.wrap ((x0_1.size : Int) - (t150.size : Int))) = ji13 := (i64_w _).trans hji13
                  by_cases c14 : 0 ≤ (ji13)
                  · rw [if_pos c14] at H
                    have c14b0 := eq_true c14
                    have c14b1 : decide (0 ≤ (ji13)) = true := decide_eq_true c14
                    clear c14
                    by_cases c15 : (ji13) ≤ (x0_1.size : Int)
                    · rw [if_pos c15] at H
                      have c15b0 := eq_true c15
                      have c15b1 : decide ((ji13) ≤ (x0_1.size : Int)) = true := decide_eq_true c15
                      clear c15
                      by_cases c16 : (x0_1.extract 0 ((ji13) : Int).toNat).toList = (rdOf ByteArray.empty l1 x20_1).toList
                      · rw [if_pos c16] at H
                        have c16b0 : ((x0_1.extract 0 ((ji13) : Int).toNat).toList == (rdOf ByteArray.empty l1 x20_1).toList) = true := beq_iff_eq.mpr c16
                        have c16b1 : ((x0_1.extract 0 ((ji13) : Int).toNat).toList != (rdOf ByteArray.empty l1 x20_1).toList) = false := bne_eq_false_iff_eq.mpr c16
                        clear c16
                        have H' := Aside0.mk H
                        clear H
                        have p149 : 0 ≤ (x20_1 : Int) := of_decide_eq_true (by first | (with_reducible assumption) | assumption)
                        have q149 : x20_1 < (l1.length : Int) := of_decide_eq_true (by first | (with_reducible assumption) | assumption)
                        obtain ⟨ad149, e149, hx149_0⟩ := Kd.at_string HR1.out x20_1 p149 q149
                        cases e149
                        replace hx149_0 := (HB.out.cell (World.block_lt_of_cell? w _ hx149_0)).trans hx149_0
                        replace p149 := eq_true p149
                        replace q149 := eq_true q149
                        go_wp2_with (first | ((with_reducible refine gate_callee (f := 11) rfl ?_); refine goesL_ (some 26) rfl rfl Try.func11 (by kernel_rfl) rfl #[.string x0_1, .int .i64 0, .int .i64 0, .int .i64 0] rfl (by (try simp only [List.map_toArray, List.map_cons, List.map_nil]); first | done | rfl | (simp only [List.length_drop, List.length_take]; rfl)) ?_; (with_reducible refine (Given.SgBegin.calls x0_1 0 0 0 t150 true _ A9.out).mono ?_); rintro e w17 ⟨rfl, hb⟩; refine ⟨_, rfl, ?_⟩; have n0_ := Aside0.mk (below_step (by repeat (first | (with_reducible first | exact HB.out | apply below_alloc | apply pw_below_drewN | apply below_drew1) | exact HB.out)) hb); clear HB; have HB := n0_; clear n0_; (try clear hb); (try clear hb2); (try clear hk); (try clear hi)))
                        go_roundg k1
                        case measure => have := HK1.out; omega
                        case rel => exact ⟨(t150), (wrap64 (x20_1 + 1)), (by first | rfl | (simp; done) | (simp [*]; done)), (by first | rfl | (simp; done) | (simp [*]; done)), H', ⟨by have := HK1.out; omega⟩, ⟨by repeat (first | (with_reducible first | exact HB.out | apply below_alloc | apply pw_below_drewN | apply below_drew1) | exact HB.out)⟩⟩
                      · rw [if_neg c16] at H
                        have c16b0 : ((x0_1.extract 0 ((ji13) : Int).toNat).toList == (rdOf ByteArray.empty l1 x20_1).toList) = false := beq_eq_false_iff_ne.mpr c16
                        have c16b1 : ((x0_1.extract 0 ((ji13) : Int).toNat).toList != (rdOf ByteArray.empty l1 x20_1).toList) = true := bne_iff_ne.mpr c16
                        obtain rfl := Option.some.inj H
                        have p149 : 0 ≤ (x20_1 : Int) := of_decide_eq_true (by first | (with_reducible assumption) | assumption)
                        have q149 : x20_1 < (l1.length : Int) := of_decide_eq_true (by first | (with_reducible assumption) | assumption)
                        obtain ⟨ad149, e149, hx149_0⟩ := Kd.at_string HR1.out x20_1 p149 q149
                        cases e149
                        replace hx149_0 := (HB.out.cell (World.block_lt_of_cell? w _ hx149_0)).trans hx149_0
                        replace p149 := eq_true p149
                        replace q149 := eq_true q149
                        go_wp2_with (first | ((with_reducible refine gate_callee (f := 11) rfl ?_); refine goesL_ (some 26) rfl rfl Try.func11 (by kernel_rfl) rfl #[.string x0_1, .int .i64 0, .int .i64 0, .int .i64 0] rfl (by (try simp only [List.map_toArray, List.map_cons, List.map_nil]); first | done | rfl | (simp only [List.length_drop, List.length_take]; rfl)) ?_; (with_reducible refine (Given.SgBegin.calls x0_1 0 0 0 t150 true _ A9.out).mono ?_); rintro e w18 ⟨rfl, hb⟩; refine ⟨_, rfl, ?_⟩; have n0_ := Aside0.mk (below_step (by repeat (first | (with_reducible first | exact HB.out | apply below_alloc | apply pw_below_drewN | apply below_drew1) | exact HB.out)) hb); clear HB; have HB := n0_; clear n0_; (try clear hb); (try clear hb2); (try clear hk); (try clear hi)))
                        go_ret
                        exact ⟨by first | rfl | (simp [errW_none, errW_some] <;> rfl) | (simp only [← hji13]; first | rfl | (simp [errW_none, errW_some] <;> rfl)) | (simp [*, errW_none, errW_some] <;> rfl), by repeat (first | (with_reducible first | exact HB.out | apply below_alloc | apply pw_below_drewN | apply below_drew1) | exact HB.out)⟩
                    · rw [if_neg c15] at H
                      exact absurd H (by simp)
                  · rw [if_neg c14] at H
                    exact absurd H (by simp)
              · replace c10 := Bool.eq_false_iff.mpr c10
                subst c10
                have H1 : (some false) = some r := by rw [if_neg (show ¬ (false = true) by decide)] at H; exact H
                clear H
                have H := H1
                clear H1
                obtain rfl := Option.some.inj H
                have p149 : 0 ≤ (x20_1 : Int) := of_decide_eq_true (by first | (with_reducible assumption) | assumption)
                have q149 : x20_1 < (l1.length : Int) := of_decide_eq_true (by first | (with_reducible assumption) | assumption)
                obtain ⟨ad149, e149, hx149_0⟩ := Kd.at_string HR1.out x20_1 p149 q149
                cases e149
                replace hx149_0 := (HB.out.cell (World.block_lt_of_cell? w _ hx149_0)).trans hx149_0
                replace p149 := eq_true p149
                replace q149 := eq_true q149
                go_wp2_with (first | ((with_reducible refine gate_callee (f := 11) rfl ?_); refine goesL_ (some 26) rfl rfl Try.func11 (by kernel_rfl) rfl #[.string x0_1, .int .i64 0, .int .i64 0, .int .i64 0] rfl (by (try simp only [List.map_toArray, List.map_cons, List.map_nil]); first | done | rfl | (simp only [List.length_drop, List.length_take]; rfl)) ?_; (with_reducible refine (Given.SgBegin.calls x0_1 0 0 0 t150 false _ A9.out).mono ?_); rintro e w19 ⟨rfl, hb⟩; refine ⟨_, rfl, ?_⟩; have n0_ := Aside0.mk (below_step (by repeat (first | (with_reducible first | exact HB.out | apply below_alloc | apply pw_below_drewN | apply below_drew1) | exact HB.out)) hb); clear HB; have HB := n0_; clear n0_; (try clear hb); (try clear hb2); (try clear hk); (try clear hi)))
                go_ret
                exact ⟨by first | rfl | (simp [errW_none, errW_some] <;> rfl) | (simp [*, errW_none, errW_some] <;> rfl), by repeat (first | (with_reducible first | exact HB.out | apply below_alloc | apply pw_below_drewN | apply below_drew1) | exact HB.out)⟩
            · rw [if_neg c8] at H
              exact absurd H (by simp)
          · rw [if_neg c7] at H
            exact absurd H (by simp)
        · rw [if_neg c6] at H
          have c6b0 : decide (x20_1 < (l1.length : Int)) = false := decide_eq_false c6
          clear c6
          obtain rfl := Option.some.inj H
          go_wp2
          go_ret
          exact ⟨by first | rfl | (simp [errW_none, errW_some] <;> rfl) | (simp [*, errW_none, errW_some] <;> rfl), by repeat (first | (with_reducible first | exact HB.out | apply below_alloc | apply pw_below_drewN | apply below_drew1) | exact HB.out)⟩
  · replace c4 := Bool.eq_false_iff.mpr c4
    subst c4
    have H1 : (some false) = some r := by rw [if_neg (show ¬ (false = true) by decide)] at H; exact H
    clear H
    have H := H1
    clear H1
    obtain rfl := Option.some.inj H
    go_enter Try.func16, Try.ntmps16
    go_wp2_with (first | ((with_reducible refine gate_callee (f := 14) rfl ?_); refine goesL_ (some 13) rfl rfl Try.func14 (by kernel_rfl) rfl #[.string a0] rfl (by (try simp only [List.map_toArray, List.map_cons, List.map_nil]); first | done | rfl | (simp only [List.length_drop, List.length_take]; rfl)) ?_; (with_reducible refine (Given.SgParse.calls a0 t147 false _ A3.out).mono ?_); rintro e w20 ⟨rfl, hb⟩; refine ⟨_, rfl, ?_⟩; have n0_ := Aside0.mk (below_step (by repeat (first | (with_reducible first | exact HB.out | apply below_alloc | apply pw_below_drewN | apply below_drew1) | exact HB.out)) hb); clear HB; have HB := n0_; clear n0_; (try clear hb); (try clear hb2); (try clear hk); (try clear hi)))
    go_ret
    exact ⟨by first | rfl | (simp [errW_none, errW_some] <;> rfl) | (simp [*, errW_none, errW_some] <;> rfl), by repeat (first | (with_reducible first | exact HB.out | apply below_alloc | apply pw_below_drewN | apply below_drew1) | exact HB.out)⟩

/-! ### spec_Joined: function 17 -/
def spec_Joined.l0 : Nat → ByteArray → ByteArray → List ByteArray → Int → Int → Option (ByteArray)
  | 0, _, _, _, _, _ => none
  | k + 1, x1, x5, x8, x9, x10 => if x10 < x9 then (if 0 ≤ x10 then (if x10 < (x8.length : Int) then (if x10 > 0 then (if x5.size + x1.size ≤ 9223372036854775807 then (if (x5 ++ x1).size + (rdOf ByteArray.empty x8 x10).size ≤ 9223372036854775807 then (spec_Joined.l0 k x1 ((x5 ++ x1) ++ (rdOf ByteArray.empty x8 x10)) x8 x9 (wrap64 (x10 + 1))) else (none)) else (none)) else (if x5.size + (rdOf ByteArray.empty x8 x10).size ≤ 9223372036854775807 then (spec_Joined.l0 k x1 (x5 ++ (rdOf ByteArray.empty x8 x10)) x8 x9 (wrap64 (x10 + 1))) else (none))) else (none)) else (none)) else (some x5)
def spec_Joined.f (k : Nat) (l0 : List ByteArray) (a1 : ByteArray) : Option (ByteArray) := spec_Joined.l0 k a1 (⟨#[]⟩ : ByteArray) l0 (l0.length : Int) 0
theorem spec_Joined.mono_l : ∀ k, (∀ y0 y1 y2 y3 y4, LeO (spec_Joined.l0 k y0 y1 y2 y3 y4) (spec_Joined.l0 (k + 1) y0 y1 y2 y3 y4))
  | 0 => fun _ _ _ _ _ r h => by simp [spec_Joined.l0] at h
  | k + 1 => by
    have ih0 := spec_Joined.mono_l k
    · intro y0 y1 y2 y3 y4
      unfold spec_Joined.l0
      repeat' first
      | (with_reducible exact ih0 _ _ _ _ _)
      | (with_reducible exact LeO.refl _)
      | (with_reducible exact LeO.none _)
      | (with_reducible refine LeO.ite ?_ ?_)
      | (with_reducible refine LeO.bind ?_ (fun _ => ?_))
      | exact ih0 _ _ _ _ _
      | exact LeO.none _
      | refine LeO.ite ?_ ?_
      | refine LeO.bind ?_ (fun _ => ?_)
theorem spec_Joined.mono : ∀ a0 a1 k, LeO (spec_Joined.f k a0 a1) (spec_Joined.f (k + 1) a0 a1) := by
  intro a0 a1 k
  have ih0 := spec_Joined.mono_l k
  unfold spec_Joined.f
  repeat' first
      | (with_reducible exact ih0 _ _ _ _ _)
      | (with_reducible exact LeO.refl _)
      | (with_reducible exact LeO.none _)
      | (with_reducible refine LeO.ite ?_ ?_)
      | (with_reducible refine LeO.bind ?_ (fun _ => ?_))
      | exact ih0 _ _ _ _ _
      | exact LeO.none _
      | refine LeO.ite ?_ ?_
      | refine LeO.bind ?_ (fun _ => ?_)
set_option maxHeartbeats 8000000 in
set_option maxRecDepth 100000 in
theorem spec_Joined.calls (k : Nat) (A0 : Option Addr) (c0 : Nat) (l0 : List ByteArray) (a1 : ByteArray) (r : ByteArray) (w : World) (hr0 : Kd.C Kd.string w A0 l0.length l0) (hc0 : l0.length ≤ c0) (h : spec_Joined.f k l0 a1 = some r) :
    Calls Try.prog 17 #[.slice A0 l0.length c0, .string a1] w fun e w' => e = .returned (.string r) ∧ Drawn0 w w' := by
  have HR0 := Aside0.mk hr0
  have HC0 := Aside0.mk hc0
  clear hr0 hc0
  have H : (spec_Joined.l0 k a1 (⟨#[]⟩ : ByteArray) l0 (l0.length : Int) 0) = some r := h
  clear h
  have H' := Aside0.mk H
  clear H
  go_enter Try.func17, Try.ntmps17
  go_wp2
  go_loopg [5, 10] k (fun kq v5 v10 w' => ∃ (x5_1 : ByteArray) (x10_1 : Int), v5 = .string x5_1 ∧ v10 = .int .i64 x10_1 ∧ Aside0 (spec_Joined.l0 kq a1 x5_1 l0 (l0.length : Int) x10_1 = some r) ∧ Aside0 (kq ≤ k) ∧ Drawn0 w w')
  case atStart => exact ⟨((⟨#[]⟩ : ByteArray)), (0), (by first | rfl | (simp; done) | (simp [*]; done)), (by first | rfl | (simp; done) | (simp [*]; done)), H', ⟨Nat.le_refl _⟩, by repeat (first | exact Drawn0.refl _ | apply Drawn0.step)⟩
  case round =>
    clear H'
    try clear c1
    try clear p2
    obtain ⟨x5_1, x10_1, rfl, rfl, HA, HK1, ⟨m1, rfl⟩⟩ := hrel
    cases gk with
    | zero => exact absurd HA.out (by simp [spec_Joined.l0])
    | succ k1 =>
      have H := HA.out
      clear HA
      simp only [spec_Joined.l0] at H
      by_cases c3 : x10_1 < (l0.length : Int)
      · rw [if_pos c3] at H
        have c3b0 : decide (x10_1 < (l0.length : Int)) = true := decide_eq_true c3
        clear c3
        by_cases c4 : 0 ≤ x10_1
        · rw [if_pos c4] at H
          have c4b0 : decide (0 ≤ x10_1) = true := decide_eq_true c4
          clear c4
          by_cases c5 : x10_1 < (l0.length : Int)
          · rw [if_pos c5] at H
            have c5b0 : decide (x10_1 < (l0.length : Int)) = true := decide_eq_true c5
            clear c5
            by_cases c6 : x10_1 > 0
            · rw [if_pos c6] at H
              have c6b0 : decide (0 < x10_1) = true := decide_eq_true c6
              clear c6
              by_cases c7 : x5_1.size + a1.size ≤ 9223372036854775807
              · rw [if_pos c7] at H
                have c7b0 := eq_true c7
                have c7b1 : decide (x5_1.size + a1.size ≤ 9223372036854775807) = true := decide_eq_true c7
                try have c7b2 : (9223372036854775807 < x5_1.size + a1.size) = False := eq_false (Nat.not_lt.2 c7)
                by_cases c8 : (x5_1 ++ a1).size + (rdOf ByteArray.empty l0 x10_1).size ≤ 9223372036854775807
                · rw [if_pos c8] at H
                  have c8b0 := eq_true c8
                  have c8b1 : decide ((x5_1 ++ a1).size + (rdOf ByteArray.empty l0 x10_1).size ≤ 9223372036854775807) = true := decide_eq_true c8
                  try have c8b2 : (9223372036854775807 < (x5_1 ++ a1).size + (rdOf ByteArray.empty l0 x10_1).size) = False := eq_false (Nat.not_lt.2 c8)
                  have H' := Aside0.mk H
                  clear H
                  have p152 : 0 ≤ (x10_1 : Int) := of_decide_eq_true (by first | (with_reducible assumption) | assumption)
                  have q152 : x10_1 < (l0.length : Int) := of_decide_eq_true (by first | (with_reducible assumption) | assumption)
                  obtain ⟨ad152, e152, hx152_0⟩ := Kd.at_string HR0.out x10_1 p152 q152
                  cases e152
                  replace p152 := eq_true p152
                  replace q152 := eq_true q152
                  go_wp2
                  go_roundg k1
                  case measure => have := HK1.out; omega
                  case rel => exact ⟨((x5_1 ++ a1) ++ (rdOf ByteArray.empty l0 x10_1)), (wrap64 (x10_1 + 1)), (by first | rfl | (simp; done) | (simp [*]; done)), (by first | rfl | (simp; done) | (simp [*]; done)), H', ⟨by have := HK1.out; omega⟩, by repeat (first | exact Drawn0.refl _ | apply Drawn0.step)⟩
                · rw [if_neg c8] at H
                  exact absurd H (by simp)
              · rw [if_neg c7] at H
                exact absurd H (by simp)
            · rw [if_neg c6] at H
              have c6b0 : decide (0 < x10_1) = false := decide_eq_false c6
              clear c6
              by_cases c9 : x5_1.size + (rdOf ByteArray.empty l0 x10_1).size ≤ 9223372036854775807
              · rw [if_pos c9] at H
                have c9b0 := eq_true c9
                have c9b1 : decide (x5_1.size + (rdOf ByteArray.empty l0 x10_1).size ≤ 9223372036854775807) = true := decide_eq_true c9
                try have c9b2 : (9223372036854775807 < x5_1.size + (rdOf ByteArray.empty l0 x10_1).size) = False := eq_false (Nat.not_lt.2 c9)
                have H' := Aside0.mk H
                clear H
                have p152 : 0 ≤ (x10_1 : Int) := of_decide_eq_true (by first | (with_reducible assumption) | assumption)
                have q152 : x10_1 < (l0.length : Int) := of_decide_eq_true (by first | (with_reducible assumption) | assumption)
                obtain ⟨ad152, e152, hx152_0⟩ := Kd.at_string HR0.out x10_1 p152 q152
                cases e152
                replace p152 := eq_true p152
                replace q152 := eq_true q152
                go_wp2
                go_roundg k1
                case measure => have := HK1.out; omega
                case rel => exact ⟨(x5_1 ++ (rdOf ByteArray.empty l0 x10_1)), (wrap64 (x10_1 + 1)), (by first | rfl | (simp; done) | (simp [*]; done)), (by first | rfl | (simp; done) | (simp [*]; done)), H', ⟨by have := HK1.out; omega⟩, by repeat (first | exact Drawn0.refl _ | apply Drawn0.step)⟩
              · rw [if_neg c9] at H
                exact absurd H (by simp)
          · rw [if_neg c5] at H
            exact absurd H (by simp)
        · rw [if_neg c4] at H
          exact absurd H (by simp)
      · rw [if_neg c3] at H
        have c3b0 : decide (x10_1 < (l0.length : Int)) = false := decide_eq_false c3
        clear c3
        obtain rfl := Option.some.inj H
        go_wp2
        go_ret
        exact ⟨by first | rfl | (simp; done) | (simp [*]; done), by repeat (first | exact Drawn0.refl _ | apply Drawn0.step)⟩

end Go.Proofs.Ythkblpbabcibcaa.PSg

-- Written by a program of this session (wip/tools/myprint.py) for this claim.
import Derived.Test.YthkmgbfobobpdaaPFnWrPadx0
namespace Go.Proofs.Ythkmgbfobobpdaa.PFnWrPad
open Go.RowKit Go.Proofs.YthkmgbfobobpdaaW.PrintWords Go.Proofs.YthkmgbfobobpdaaW.PrintLast Go.Proofs.YthkmgbfobobpdaaW.PrintMore
attribute [local go_sem] max2_int min2_int max_two min_two max_three min_three max_four min_four   -- for this text's walks alone
set_option linter.unusedVariables false
set_option linter.unusedSimpArgs false

/-! ### impl_WrPad: function 15 -/
def impl_WrPad.f (a0 : Int) (a1 : Int) (a2 : Int) : Option (Int) := (Given.DoorPad.f a0 a1 a2).bind fun t101 => (some t101)
set_option maxHeartbeats 8000000 in
set_option maxRecDepth 100000 in
theorem impl_WrPad.calls (a0 : Int) (a1 : Int) (a2 : Int) (r : Int) (w : World) (h : impl_WrPad.f a0 a1 a2 = some r) :
    Calls Try.prog 15 #[.int .i64 a0, .int .i64 a1, .int .i64 a2] w fun e w' => e = .returned (.int .i64 r) ∧ Below w.heap.size w w' := by
  have HB := Aside0.mk (Below.refl w.heap.size w)
  have H : ((Given.DoorPad.f a0 a1 a2).bind fun t101 => (some t101)) = some r := h
  clear h
  replace H := Option.bind_eq_some_iff.mp H
  obtain ⟨t101, A40, H⟩ := H
  replace H : (some t101) = some r := H
  have A4 := Aside0.mk A40
  clear A40
  obtain rfl := Option.some.inj H
  go_enter Try.func15, Try.ntmps15
  go_wp2_with (first | ((with_reducible refine gate_callee (f := 31) rfl ?_); refine goesL_ (some 10) rfl rfl Try.func31 (by kernel_rfl) rfl #[.int .i64 a0, .int .i64 a1, .int .i64 a2] rfl (by (try simp only [List.map_toArray, List.map_cons, List.map_nil]); first | done | rfl | (simp only [List.length_drop, List.length_take]; rfl)) ?_; (with_reducible refine (Given.DoorPad.calls a0 a1 a2 t101 _ A4.out).mono ?_); rintro e w5 ⟨rfl, hb⟩; refine ⟨_, rfl, ?_⟩; have n0_ := Aside0.mk (below_step (by repeat (first | (with_reducible first | exact HB.out | apply below_alloc | apply pw_below_drewN | apply below_drew1) | exact HB.out)) hb); clear HB; have HB := n0_; clear n0_; (try clear hb); (try clear hb2); (try clear hk); (try clear hi)))
  go_ret
  exact ⟨by first | rfl | (simp [errW_none, errW_some] <;> rfl) | (simp [*, errW_none, errW_some] <;> rfl), by repeat (first | (with_reducible first | exact HB.out | apply below_alloc | apply pw_below_drewN | apply below_drew1) | exact HB.out)⟩

/-! ### laws_FnWrPad: function 3 -/
def laws_FnWrPad.j0 : Nat → Int → Int → Int → Bool → Option (Bool)
  | 0, _, _, _, _ => none
  | k + 1, x0, x1, x2, x18 => if x18 = true then (some true) else (if 0 ≤ (IntKind.u64.wrap (x2)) then ((impl_WrPad.f (wrap64 (x0)) (wrap64 (x1)) (shl .i64 1 (IntKind.u64.wrap (x2)))).bind fun t102 => (if t102 ≥ 0 then (if t102 < (shl .i64 1 (IntKind.u64.wrap (x2))) then (if (shl .i64 1 (IntKind.u64.wrap (x2))) = 0 then (none) else (if (Int.tmod (wrap64 ((wrap64 ((wrap64 (x0)) + (wrap64 (x1)))) + t102)) (shl .i64 1 (IntKind.u64.wrap (x2)))) = 0 then ((impl_WrPad.f 1 2 8).bind fun t103 => (some (t103 == 5))) else (some false))) else (some false)) else (some false))) else (none))
def laws_FnWrPad.f (k : Nat) (a0 : Int) (a1 : Int) (a2 : Int) : Option (Bool) := if a0 > 1099511627776 then (laws_FnWrPad.j0 k a0 a1 a2 true) else (if a1 > 1099511627776 then (laws_FnWrPad.j0 k a0 a1 a2 true) else (laws_FnWrPad.j0 k a0 a1 a2 (decide (a2 > 20))))
theorem laws_FnWrPad.mono_l : ∀ k, (∀ y0 y1 y2 y3, LeO (laws_FnWrPad.j0 k y0 y1 y2 y3) (laws_FnWrPad.j0 (k + 1) y0 y1 y2 y3))
  | 0 => fun _ _ _ _ r h => by simp [laws_FnWrPad.j0] at h
  | k + 1 => by
    have ih0 := laws_FnWrPad.mono_l k
    · intro y0 y1 y2 y3
      unfold laws_FnWrPad.j0
      repeat' first
      | (with_reducible exact ih0 _ _ _ _)
      | (with_reducible exact LeO.refl _)
      | (with_reducible exact LeO.none _)
      | (with_reducible refine LeO.ite ?_ ?_)
      | (with_reducible refine LeO.bind ?_ (fun _ => ?_))
      | exact ih0 _ _ _ _
      | exact LeO.none _
      | refine LeO.ite ?_ ?_
      | refine LeO.bind ?_ (fun _ => ?_)
theorem laws_FnWrPad.mono : ∀ a0 a1 a2 k, LeO (laws_FnWrPad.f k a0 a1 a2) (laws_FnWrPad.f (k + 1) a0 a1 a2) := by
  intro a0 a1 a2 k
  have ih0 := laws_FnWrPad.mono_l k
  unfold laws_FnWrPad.f
  repeat' first
      | (with_reducible exact ih0 _ _ _ _)
      | (with_reducible exact LeO.refl _)
      | (with_reducible exact LeO.none _)
      | (with_reducible refine LeO.ite ?_ ?_)
      | (with_reducible refine LeO.bind ?_ (fun _ => ?_))
      | exact ih0 _ _ _ _
      | exact LeO.none _
      | refine LeO.ite ?_ ?_
      | refine LeO.bind ?_ (fun _ => ?_)
set_option maxHeartbeats 8000000 in
set_option maxRecDepth 100000 in
theorem laws_FnWrPad.calls (k : Nat) (a0 : Int) (a1 : Int) (a2 : Int) (r : Bool) (w : World) (h : laws_FnWrPad.f k a0 a1 a2 = some r) :
    Calls Try.prog 3 #[.int .u64 a0, .int .u64 a1, .int .u8 a2] w fun e w' => e = .returned (.bool r) ∧ Below w.heap.size w w' := by
  have HB := Aside0.mk (Below.refl w.heap.size w)
  have H : (if a0 > 1099511627776 then (laws_FnWrPad.j0 k a0 a1 a2 true) else (if a1 > 1099511627776 then (laws_FnWrPad.j0 k a0 a1 a2 true) else (laws_FnWrPad.j0 k a0 a1 a2 (decide (a2 > 20))))) = some r := h
  clear h
  have HC4 := Aside0.mk H
  clear H
  go_enter Try.func3, Try.ntmps3
  go_upto_region 1 with (fail)
  go_cut [18] (fun v18 wc => ∃ (kq : Nat) (x18_3 : Bool), v18 = .bool x18_3 ∧ Aside0 (laws_FnWrPad.j0 kq a0 a1 a2 x18_3 = some r) ∧ Aside0 (kq ≤ k) ∧ Aside0 (Below w.heap.size w wc))
  case first =>
    have H := HC4.out
    clear HC4
    by_cases c5 : a0 > 1099511627776
    · rw [if_pos c5] at H
      have c5b0 : decide (1099511627776 < a0) = true := decide_eq_true c5
      clear c5
      (first | rw [c5b0] | (simp only [i64_w, i32_w]; rw [c5b0]) | skip)
      have H' := Aside0.mk H
      clear H
      go_wp2
      go_meet
      case rel => exact ⟨_, (true), (by first | rfl | (simp; done) | (simp [*]; done)), H', ⟨by first | omega | exact Nat.le_refl _⟩, ⟨by repeat (first | (with_reducible first | exact HB.out | apply below_alloc | apply pw_below_drewN | apply below_drew1) | exact HB.out)⟩⟩
    · rw [if_neg c5] at H
      have c5b0 : decide (1099511627776 < a0) = false := decide_eq_false c5
      clear c5
      (first | rw [c5b0] | (simp only [i64_w, i32_w]; rw [c5b0]) | skip)
      by_cases c6 : a1 > 1099511627776
      · rw [if_pos c6] at H
        have c6b0 : decide (1099511627776 < a1) = true := decide_eq_true c6
        clear c6
        have H' := Aside0.mk H
        clear H
        go_wp2
        go_meet
        case rel => exact ⟨_, (true), (by first | rfl | (simp; done) | (simp [*]; done)), H', ⟨by first | omega | exact Nat.le_refl _⟩, ⟨by repeat (first | (with_reducible first | exact HB.out | apply below_alloc | apply pw_below_drewN | apply below_drew1) | exact HB.out)⟩⟩
      · rw [if_neg c6] at H
        have c6b0 : decide (1099511627776 < a1) = false := decide_eq_false c6
        clear c6
        have H' := Aside0.mk H
        clear H
        go_wp2
        go_meet
        case rel => exact ⟨_, (decide (a2 > 20)), (by first | rfl | (simp; done) | (simp [*]; done)), H', ⟨by first | omega | exact Nat.le_refl _⟩, ⟨by repeat (first | (with_reducible first | exact HB.out | apply below_alloc | apply pw_below_drewN | apply below_drew1) | exact HB.out)⟩⟩
  case rest =>
    clear HC4
    try clear p2
    try clear c3
    try clear c5
    try clear c5b0
    try clear c6
    try clear c6b0
    obtain ⟨kq, x18_3, rfl, HA, HJ3, HB⟩ := hcut
    cases kq with
    | zero => exact absurd HA.out (by simp [laws_FnWrPad.j0])
    | succ kj3 =>
      have H := HA.out
      clear HA
      simp only [laws_FnWrPad.j0] at H
      by_cases c7 : x18_3 = true
      · subst c7
        have H1 : (some true) = some r := by rw [if_pos rfl] at H; exact H
        clear H
        have H := H1
        clear H1
        obtain rfl := Option.some.inj H
        go_wp2
        go_ret
        exact ⟨by first | rfl | (simp [errW_none, errW_some] <;> rfl) | (simp [*, errW_none, errW_some] <;> rfl), by repeat (first | (with_reducible first | exact HB.out | apply below_alloc | apply pw_below_drewN | apply below_drew1) | exact HB.out)⟩
      · replace c7 := Bool.eq_false_iff.mpr c7
        subst c7
        have H1 : (if 0 ≤ (IntKind.u64.wrap (a2)) then ((impl_WrPad.f (wrap64 (a0)) (wrap64 (a1)) (shl .i64 1 (IntKind.u64.wrap (a2)))).bind fun t102 => (if t102 ≥ 0 then (if t102 < (shl .i64 1 (IntKind.u64.wrap (a2))) then (if (shl .i64 1 (IntKind.u64.wrap (a2))) = 0 then (none) else (if (Int.tmod (wrap64 ((wrap64 ((wrap64 (a0)) + (wrap64 (a1)))) + t102)) (shl .i64 1 (IntKind.u64.wrap (a2)))) = 0 then ((impl_WrPad.f 1 2 8).bind fun t103 => (some (t103 == 5))) else (some false))) else (some false)) else (some false))) else (none)) = some r := by rw [if_neg (show ¬ (false = true) by decide)] at H; exact H
        clear H
        have H := H1
        clear H1
        obtain ⟨ji8, hji8⟩ : ∃ j_ : Int, (IntKind.u64.wrap (a2)) = j_ := ⟨_, rfl⟩
        replace H : (if 0 ≤ (ji8) then ((impl_WrPad.f (wrap64 (a0)) (wrap64 (a1)) (shl .i64 1 (ji8))).bind fun t102 => (if t102 ≥ 0 then (if t102 < (shl .i64 1 (ji8)) then (if (shl .i64 1 (ji8)) = 0 then (none) else (if (Int.tmod (wrap64 ((wrap64 ((wrap64 (a0)) + (wrap64 (a1)))) + t102)) (shl .i64 1 (ji8))) = 0 then ((impl_WrPad.f 1 2 8).bind fun t103 => (some (t103 == 5))) else (some false))) else (some false)) else (some false))) else (none)) = some r := by first | (rw [hji8] at H; exact H) | (simp only [hji8] at H ⊢; exact H)
        by_cases c9 : 0 ≤ (ji8)
        · rw [if_pos c9] at H
          have c9b0 := eq_true c9
          have c9b1 : decide (0 ≤ (ji8)) = true := decide_eq_true c9
          clear c9
          obtain ⟨ji10, hji10⟩ : ∃ j_ : Int, (shl .i64 1 (ji8)) = j_ := ⟨_, rfl⟩
          replace H : ((impl_WrPad.f (wrap64 (a0)) (wrap64 (a1)) (ji10)).bind fun t102 => (if t102 ≥ 0 then (if t102 < (ji10) then (if (ji10) = 0 then (none) else (if (Int.tmod (wrap64 ((wrap64 ((wrap64 (a0)) + (wrap64 (a1)))) + t102)) (ji10)) = 0 then ((impl_WrPad.f 1 2 8).bind fun t103 => (some (t103 == 5))) else (some false))) else (some false)) else (some false))) = some r := by first | (rw [hji10] at H; exact H) | (simp only [hji10] at H ⊢; exact H)
          have hji10_ : (IntKind.i64.wrap (1 * 2 ^ min (ji8).toNat 64)) = ji10 := hji10
          have hji10z : (ji8) ≤ 64 → (IntKind.i64.wrap (1 * 2 ^ (ji8).toNat)) = ji10 := shl_small hji10
          have hji10u : (IntKind.i64.wrap (2 ^ min (ji8).toNat 64)) = ji10 := by have h_ := hji10_; rw [Int.one_mul] at h_; exact h_
          have hji10v : (ji8) ≤ 64 → (IntKind.i64.wrap (2 ^ (ji8).toNat)) = ji10 := fun hle_ => by have h_ := hji10z hle_; rw [Int.one_mul] at h_; exact h_
          have hji10y : (wrap64 (1 * 2 ^ min (ji8).toNat 64)) = ji10 := (i64_w _).symm.trans hji10_
          have hji10x : (ji8) ≤ 64 → (wrap64 (1 * 2 ^ (ji8).toNat)) = ji10 := fun h_ => (i64_w _).symm.trans (hji10z h_)
          replace H := Option.bind_eq_some_iff.mp H
          obtain ⟨t102, A110, H⟩ := H
          replace H : (if t102 ≥ 0 then (if t102 < (ji10) then (if (ji10) = 0 then (none) else (if (Int.tmod (wrap64 ((wrap64 ((wrap64 (a0)) + (wrap64 (a1)))) + t102)) (ji10)) = 0 then ((impl_WrPad.f 1 2 8).bind fun t103 => (some (t103 == 5))) else (some false))) else (some false)) else (some false)) = some r := H
          have A11 := Aside0.mk A110
          clear A110
          by_cases c12 : t102 ≥ 0
          · rw [if_pos c12] at H
            have c12b0 : decide (0 ≤ t102) = true := decide_eq_true c12
            clear c12
            by_cases c13 : t102 < (ji10)
            · rw [if_pos c13] at H
              have c13b0 : decide (t102 < (ji10)) = true := decide_eq_true c13
              clear c13
              by_cases c14 : (ji10) = 0
              · rw [if_pos c14] at H
                exact absurd H (by simp)
              · rw [if_neg c14] at H
                have c14b0 : ((ji10) == 0) = false := beq_eq_false_iff_ne.mpr c14
                have c14b1 : ((ji10) != 0) = true := bne_iff_ne.mpr c14
                by_cases c15 : (Int.tmod (wrap64 ((wrap64 ((wrap64 (a0)) + (wrap64 (a1)))) + t102)) (ji10)) = 0
                · rw [if_pos c15] at H
                  have c15b0 : ((Int.tmod (wrap64 ((wrap64 ((wrap64 (a0)) + (wrap64 (a1)))) + t102)) (ji10)) == 0) = true := beq_iff_eq.mpr c15
                  have c15b1 : ((Int.tmod (wrap64 ((wrap64 ((wrap64 (a0)) + (wrap64 (a1)))) + t102)) (ji10)) != 0) = false := bne_eq_false_iff_eq.mpr c15
                  clear c15
                  replace H := Option.bind_eq_some_iff.mp H
                  obtain ⟨t103, A160, H⟩ := H
                  replace H : (some (t103 == 5)) = some r := H
                  have A16 := Aside0.mk A160
                  clear A160
                  obtain rfl := Option.some.inj H
                  go_wp2_with (first | ((with_reducible refine gate_callee (f := 15) rfl ?_); refine goesL_ (some 27) rfl rfl Try.func15 (by kernel_rfl) rfl #[.int .i64 (wrap64 (a0)), .int .i64 (wrap64 (a1)), .int .i64 ji10] rfl (by (try simp only [List.map_toArray, List.map_cons, List.map_nil]); first | done | (simp only [hji10]; rfl) | rfl | (simp only [List.length_drop, List.length_take]; rfl)) ?_; (with_reducible refine (impl_WrPad.calls (wrap64 (a0)) (wrap64 (a1)) ji10 t102 _ A11.out).mono ?_); rintro e w17 ⟨rfl, hb⟩; refine ⟨_, rfl, ?_⟩; have n0_ := Aside0.mk (below_step (by repeat (first | (with_reducible first | exact HB.out | apply below_alloc | apply pw_below_drewN | apply below_drew1) | exact HB.out)) hb); clear HB; have HB := n0_; clear n0_; (try clear hb); (try clear hb2); (try clear hk); (try clear hi)) | (go_at_call 15; (with_reducible refine (impl_WrPad.calls 1 2 8 t103 _ A16.out).mono ?_); rintro e w18 ⟨rfl, hb⟩; have n0_ := Aside0.mk (below_step (by repeat (first | (with_reducible first | exact HB.out | apply below_alloc | apply pw_below_drewN | apply below_drew1) | exact HB.out)) hb); clear HB; have HB := n0_; clear n0_; (try clear hb); (try clear hb2); (try clear hk); (try clear hi)))
                  go_ret
                  exact ⟨by first | rfl | (simp [errW_none, errW_some] <;> rfl) | (simp only [← hji8, ← hji10]; first | rfl | (simp [errW_none, errW_some] <;> rfl)) | (simp [*, errW_none, errW_some] <;> rfl), by repeat (first | (with_reducible first | exact HB.out | apply below_alloc | apply pw_below_drewN | apply below_drew1) | exact HB.out)⟩
                · rw [if_neg c15] at H
                  have c15b0 : ((Int.tmod (wrap64 ((wrap64 ((wrap64 (a0)) + (wrap64 (a1)))) + t102)) (ji10)) == 0) = false := beq_eq_false_iff_ne.mpr c15
                  have c15b1 : ((Int.tmod (wrap64 ((wrap64 ((wrap64 (a0)) + (wrap64 (a1)))) + t102)) (ji10)) != 0) = true := bne_iff_ne.mpr c15
                  obtain rfl := Option.some.inj H
                  go_wp2_with (first | ((with_reducible refine gate_callee (f := 15) rfl ?_); refine goesL_ (some 27) rfl rfl Try.func15 (by kernel_rfl) rfl #[.int .i64 (wrap64 (a0)), .int .i64 (wrap64 (a1)), .int .i64 ji10] rfl (by (try simp only [List.map_toArray, List.map_cons, List.map_nil]); first | done | (simp only [hji10]; rfl) | rfl | (simp only [List.length_drop, List.length_take]; rfl)) ?_; (with_reducible refine (impl_WrPad.calls (wrap64 (a0)) (wrap64 (a1)) ji10 t102 _ A11.out).mono ?_); rintro e w19 ⟨rfl, hb⟩; refine ⟨_, rfl, ?_⟩; have n0_ := Aside0.mk (below_step (by repeat (first | (with_reducible first | exact HB.out | apply below_alloc | apply pw_below_drewN | apply below_drew1) | exact HB.out)) hb); clear HB; have HB := n0_; clear n0_; (try clear hb); (try clear hb2); (try clear hk); (try clear hi)))
                  go_ret
                  exact ⟨by first | rfl | (simp [errW_none, errW_some] <;> rfl) | (simp only [← hji8, ← hji10]; first | rfl | (simp [errW_none, errW_some] <;> rfl)) | (simp [*, errW_none, errW_some] <;> rfl), by repeat (first | (with_reducible first | exact HB.out | apply below_alloc | apply pw_below_drewN | apply below_drew1) | exact HB.out)⟩
            · rw [if_neg c13] at H
              have c13b0 : decide (t102 < (ji10)) = false := decide_eq_false c13
              clear c13
              obtain rfl := Option.some.inj H
              go_wp2_with (first | ((with_reducible refine gate_callee (f := 15) rfl ?_); refine goesL_ (some 27) rfl rfl Try.func15 (by kernel_rfl) rfl #[.int .i64 (wrap64 (a0)), .int .i64 (wrap64 (a1)), .int .i64 ji10] rfl (by (try simp only [List.map_toArray, List.map_cons, List.map_nil]); first | done | (simp only [hji10]; rfl) | rfl | (simp only [List.length_drop, List.length_take]; rfl)) ?_; (with_reducible refine (impl_WrPad.calls (wrap64 (a0)) (wrap64 (a1)) ji10 t102 _ A11.out).mono ?_); rintro e w20 ⟨rfl, hb⟩; refine ⟨_, rfl, ?_⟩; have n0_ := Aside0.mk (below_step (by repeat (first | (with_reducible first | exact HB.out | apply below_alloc | apply pw_below_drewN | apply below_drew1) | exact HB.out)) hb); clear HB; have HB := n0_; clear n0_; (try clear hb); (try clear hb2); (try clear hk); (try clear hi)))
              go_ret
              exact ⟨by first | rfl | (simp [errW_none, errW_some] <;> rfl) | (simp only [← hji8, ← hji10]; first | rfl | (simp [errW_none, errW_some] <;> rfl)) | (simp [*, errW_none, errW_some] <;> rfl), by repeat (first | (with_reducible first | exact HB.out | apply below_alloc | apply pw_below_drewN | apply below_drew1) | exact HB.out)⟩
          · rw [if_neg c12] at H
            have c12b0 : decide (0 ≤ t102) = false := decide_eq_false c12
            clear c12
            obtain rfl := Option.some.inj H
            go_wp2_with (first | ((with_reducible refine gate_callee (f := 15) rfl ?_); refine goesL_ (some 27) rfl rfl Try.func15 (by kernel_rfl) rfl #[.int .i64 (wrap64 (a0)), .int .i64 (wrap64 (a1)), .int .i64 ji10] rfl (by (try simp only [List.map_toArray, List.map_cons, List.map_nil]); first | done | (simp only [hji10]; rfl) | rfl | (simp only [List.length_drop, List.length_take]; rfl)) ?_; (with_reducible refine (impl_WrPad.calls (wrap64 (a0)) (wrap64 (a1)) ji10 t102 _ A11.out).mono ?_); rintro e w21 ⟨rfl, hb⟩; refine ⟨_, rfl, ?_⟩; have n0_ := Aside0.mk (below_step (by repeat (first | (with_reducible first | exact HB.out | apply below_alloc | apply pw_below_drewN | apply below_drew1) | exact HB.out)) hb); clear HB; have HB := n0_; clear n0_; (try clear hb); (try clear hb2); (try clear hk); (try clear hi)))
            go_ret
            exact ⟨by first | rfl | (simp [errW_none, errW_some] <;> rfl) | (simp only [← hji8, ← hji10]; first | rfl | (simp [errW_none, errW_some] <;> rfl)) | (simp [*, errW_none, errW_some] <;> rfl), by repeat (first | (with_reducible first | exact HB.out | apply below_alloc | apply pw_below_drewN | apply below_drew1) | exact HB.out)⟩
        · rw [if_neg c9] at H
          exact absurd H (by simp)

/-- THE ONE PURE STATEMENT of laws_FnWrPad: yours. -/
def laws_FnWrPad.Pure : Prop := ∀ (a0 : Int) (a1 : Int) (a2 : Int), (Lit.int .u64 a0).wf = true → (Lit.int .u64 a1).wf = true → (Lit.int .u8 a2).wf = true → ∃ k, laws_FnWrPad.f k a0 a1 a2 = some true
theorem laws_FnWrPad.walk (P : laws_FnWrPad.Pure) (a0 : Int) (a1 : Int) (a2 : Int) (w : World) (w0 : (Lit.int .u64 a0).wf = true) (w1 : (Lit.int .u64 a1).wf = true) (w2 : (Lit.int .u8 a2).wf = true) :
    Calls Try.prog 3 #[.int .u64 a0, .int .u64 a1, .int .u8 a2] w fun e w' => e = .returned (.bool true) ∧ Below w.heap.size w w' := by
  obtain ⟨k, h⟩ := P a0 a1 a2 w0 w1 w2
  refine (laws_FnWrPad.calls k a0 a1 a2 true w h).mono ?_
  rintro e w' ⟨rfl, hd⟩
  exact ⟨rfl, hd⟩

end Go.Proofs.Ythkmgbfobobpdaa.PFnWrPad

-- Written by a program of this session (wip/tools/myprint.py) for this claim.
import Derived.Test.YtdooimdefmegaaaDoorPWfx0
import Derived.Test.YtdooimdefmegaaaDoorPWfx1
namespace Go.Proofs.YtdooimdefmegaaaDoor.PWf
open Go.RowKit Go.Proofs.YtdooimdefmegaaaDoorW.PrintWords Go.Proofs.YtdooimdefmegaaaDoorW.PrintLast Go.Proofs.YtdooimdefmegaaaDoorW.PrintMore
attribute [local go_sem] max2_int min2_int max_two min_two max_three min_three max_four min_four   -- for this text's walks alone
set_option linter.unusedVariables false
set_option linter.unusedSimpArgs false

/-! ### laws_FnWrFullLarge: function 3 -/
def laws_FnWrFullLarge.j0 : Nat → Int → Int → Int → Int → List Int → Bool → Option (Bool)
  | 0, _, _, _, _, _, _ => none
  | k + 1, x0, x1, x2, x3, x4, x33 => if x33 = true then (some true) else ((laws_wrLong.f k (wrap64 (x0)) x3).bind fun t131 => ((laws_wrChunks.f k t131 x4).bind fun t132 => ((Given.WrFull.f t132 (wrap64 (x1)) (wrap64 (x2))).bind fun bt135 => ((Given.WrFull.f (([(⟨#[97, 98]⟩ : ByteArray), (⟨#[99]⟩ : ByteArray)] : List ByteArray)) 1 3).bind fun bt140 => (if bt140.2 = true then (if (bt135.2 == (decide (x2 ≤ x0))) = true then (if bt135.2 = true then (if 0 ≤ x2 then (if x2 ≤ (t131.size : Int) then (some (bt135.1.toList == (t131.extract 0 (x2 : Int).toNat).toList)) else (none)) else (none)) else (some true)) else (some false)) else (some false))))))
def laws_FnWrFullLarge.f (k : Nat) (a0 : Int) (a1 : Int) (a2 : Int) (a3 : Int) (l4 : List Int) : Option (Bool) := if (l4.length : Int) > 2147483647 then (some true) else (if a0 > 262144 then (laws_FnWrFullLarge.j0 k a0 a1 a2 a3 l4 true) else (if a1 > 262144 then (laws_FnWrFullLarge.j0 k a0 a1 a2 a3 l4 true) else (if a2 > 524288 then (laws_FnWrFullLarge.j0 k a0 a1 a2 a3 l4 true) else (laws_FnWrFullLarge.j0 k a0 a1 a2 a3 l4 (decide ((l4.length : Int) > 100))))))
theorem laws_FnWrFullLarge.mono_l : ∀ k, (∀ y0 y1 y2 y3 y4 y5, LeO (laws_FnWrFullLarge.j0 k y0 y1 y2 y3 y4 y5) (laws_FnWrFullLarge.j0 (k + 1) y0 y1 y2 y3 y4 y5))
  | 0 => fun _ _ _ _ _ _ r h => by simp [laws_FnWrFullLarge.j0] at h
  | k + 1 => by
    have ih0 := laws_FnWrFullLarge.mono_l k
    · intro y0 y1 y2 y3 y4 y5
      unfold laws_FnWrFullLarge.j0
      repeat' first
      | (with_reducible exact ih0 _ _ _ _ _ _)
      | (with_reducible exact laws_wrChunks.mono _ _ _)
      | (with_reducible exact laws_wrLong.mono _ _ _)
      | (with_reducible exact LeO.refl _)
      | (with_reducible exact LeO.none _)
      | (with_reducible refine LeO.ite ?_ ?_)
      | (with_reducible refine LeO.bind ?_ (fun _ => ?_))
      | exact ih0 _ _ _ _ _ _
      | exact laws_wrChunks.mono _ _ _
      | exact laws_wrLong.mono _ _ _
      | exact LeO.none _
      | refine LeO.ite ?_ ?_
      | refine LeO.bind ?_ (fun _ => ?_)
theorem laws_FnWrFullLarge.mono : ∀ a0 a1 a2 a3 a4 k, LeO (laws_FnWrFullLarge.f k a0 a1 a2 a3 a4) (laws_FnWrFullLarge.f (k + 1) a0 a1 a2 a3 a4) := by
  intro a0 a1 a2 a3 a4 k
  have ih0 := laws_FnWrFullLarge.mono_l k
  unfold laws_FnWrFullLarge.f
  repeat' first
      | (with_reducible exact ih0 _ _ _ _ _ _)
      | (with_reducible exact laws_wrChunks.mono _ _ _)
      | (with_reducible exact laws_wrLong.mono _ _ _)
      | (with_reducible exact LeO.refl _)
      | (with_reducible exact LeO.none _)
      | (with_reducible refine LeO.ite ?_ ?_)
      | (with_reducible refine LeO.bind ?_ (fun _ => ?_))
      | exact ih0 _ _ _ _ _ _
      | exact laws_wrChunks.mono _ _ _
      | exact laws_wrLong.mono _ _ _
      | exact LeO.none _
      | refine LeO.ite ?_ ?_
      | refine LeO.bind ?_ (fun _ => ?_)
set_option maxHeartbeats 8000000 in
set_option maxRecDepth 100000 in
theorem laws_FnWrFullLarge.calls (k : Nat) (a0 : Int) (a1 : Int) (a2 : Int) (a3 : Int) (A4 : Option Addr) (c4 : Nat) (l4 : List Int) (r : Bool) (w : World) (hG : Given.Glob w) (hr4 : Kd.C (Kd.int .u16) w A4 l4.length l4) (hc4 : l4.length ≤ c4) (h : laws_FnWrFullLarge.f k a0 a1 a2 a3 l4 = some r) :
    Calls Tryd.prog 3 #[.int .u32 a0, .int .u32 a1, .int .u32 a2, .int .u8 a3, .slice A4 l4.length c4] w fun e w' => e = .returned (.bool r) ∧ Below w.heap.size w w' := by
  have HG := Aside0.mk hG
  clear hG
  have HR4 := Aside0.mk hr4
  have HC4 := Aside0.mk hc4
  clear hr4 hc4
  have HB := Aside0.mk (Below.refl w.heap.size w)
  have H : (if (l4.length : Int) > 2147483647 then (some true) else (if a0 > 262144 then (laws_FnWrFullLarge.j0 k a0 a1 a2 a3 l4 true) else (if a1 > 262144 then (laws_FnWrFullLarge.j0 k a0 a1 a2 a3 l4 true) else (if a2 > 524288 then (laws_FnWrFullLarge.j0 k a0 a1 a2 a3 l4 true) else (laws_FnWrFullLarge.j0 k a0 a1 a2 a3 l4 (decide ((l4.length : Int) > 100))))))) = some r := h
  clear h
  by_cases c6 : (l4.length : Int) > 2147483647
  · rw [if_pos c6] at H
    have c6b0 : decide (2147483647 < (l4.length : Int)) = true := decide_eq_true c6
    have c6b1 : decide (2147483647 < l4.length) = true := decide_eq_true (by omega)
    clear c6
    obtain rfl := Option.some.inj H
    go_enter Tryd.func3, Tryd.ntmps3
    go_wp2
    go_ret
    exact ⟨by first | rfl | (simp [errW_none, errW_some] <;> rfl) | (simp [*, errW_none, errW_some] <;> rfl), by repeat (first | (with_reducible first | exact HB.out | apply below_alloc | apply pw_below_drewN | apply below_drew1) | exact HB.out)⟩
  · rw [if_neg c6] at H
    have c6b0 : decide (2147483647 < (l4.length : Int)) = false := decide_eq_false c6
    have c6b1 : decide (2147483647 < l4.length) = false := decide_eq_false (by omega)
    clear c6
    have HC7 := Aside0.mk H
    clear H
    go_enter Tryd.func3, Tryd.ntmps3
    go_upto_region 3 with (fail)
    go_cut [33] (fun v33 wc => ∃ (kq : Nat) (x33_6 : Bool), v33 = .bool x33_6 ∧ Aside0 (laws_FnWrFullLarge.j0 kq a0 a1 a2 a3 l4 x33_6 = some r) ∧ Aside0 (kq ≤ k) ∧ Aside0 (Below w.heap.size w wc))
    case first =>
      have H := HC7.out
      clear HC7
      by_cases c8 : a0 > 262144
      · rw [if_pos c8] at H
        have c8b0 : decide (262144 < a0) = true := decide_eq_true c8
        clear c8
        (first | rw [c8b0] | (simp only [i64_w, i32_w]; rw [c8b0]) | skip)
        have H' := Aside0.mk H
        clear H
        go_wp2
        go_meet
        case rel => exact ⟨_, (true), (by first | rfl | (simp; done) | (simp [*]; done)), H', ⟨by first | omega | exact Nat.le_refl _⟩, ⟨by repeat (first | (with_reducible first | exact HB.out | apply below_alloc | apply pw_below_drewN | apply below_drew1) | exact HB.out)⟩⟩
      · rw [if_neg c8] at H
        have c8b0 : decide (262144 < a0) = false := decide_eq_false c8
        clear c8
        (first | rw [c8b0] | (simp only [i64_w, i32_w]; rw [c8b0]) | skip)
        by_cases c9 : a1 > 262144
        · rw [if_pos c9] at H
          have c9b0 : decide (262144 < a1) = true := decide_eq_true c9
          clear c9
          have H' := Aside0.mk H
          clear H
          go_wp2
          go_meet
          case rel => exact ⟨_, (true), (by first | rfl | (simp; done) | (simp [*]; done)), H', ⟨by first | omega | exact Nat.le_refl _⟩, ⟨by repeat (first | (with_reducible first | exact HB.out | apply below_alloc | apply pw_below_drewN | apply below_drew1) | exact HB.out)⟩⟩
        · rw [if_neg c9] at H
          have c9b0 : decide (262144 < a1) = false := decide_eq_false c9
          clear c9
          by_cases c10 : a2 > 524288
          · rw [if_pos c10] at H
            have c10b0 : decide (524288 < a2) = true := decide_eq_true c10
            clear c10
            have H' := Aside0.mk H
            clear H
            go_wp2
            go_meet
            case rel => exact ⟨_, (true), (by first | rfl | (simp; done) | (simp [*]; done)), H', ⟨by first | omega | exact Nat.le_refl _⟩, ⟨by repeat (first | (with_reducible first | exact HB.out | apply below_alloc | apply pw_below_drewN | apply below_drew1) | exact HB.out)⟩⟩
          · rw [if_neg c10] at H
            have c10b0 : decide (524288 < a2) = false := decide_eq_false c10
            clear c10
            have H' := Aside0.mk H
            clear H
            go_wp2
            go_meet
            case rel => exact ⟨_, (decide ((l4.length : Int) > 100)), (by first | rfl | (simp; done) | (simp [*]; done)), H', ⟨by first | omega | exact Nat.le_refl _⟩, ⟨by repeat (first | (with_reducible first | exact HB.out | apply below_alloc | apply pw_below_drewN | apply below_drew1) | exact HB.out)⟩⟩
    case rest =>
      clear HC7
      try clear c1
      try clear p2
      try clear c3
      try clear c4
      try clear c6
      try clear c6b0
      try clear c6b1
      try clear c8
      try clear c8b0
      try clear c9
      try clear c9b0
      try clear c10
      try clear c10b0
      obtain ⟨kq, x33_6, rfl, HA, HJ6, HB⟩ := hcut
      cases kq with
      | zero => exact absurd HA.out (by simp [laws_FnWrFullLarge.j0])
      | succ kj6 =>
        have H := HA.out
        clear HA
        simp only [laws_FnWrFullLarge.j0] at H
        by_cases c11 : x33_6 = true
        · subst c11
          have H1 : (some true) = some r := by rw [if_pos rfl] at H; exact H
          clear H
          have H := H1
          clear H1
          obtain rfl := Option.some.inj H
          go_wp2
          go_ret
          exact ⟨by first | rfl | (simp [errW_none, errW_some] <;> rfl) | (simp [*, errW_none, errW_some] <;> rfl), by repeat (first | (with_reducible first | exact HB.out | apply below_alloc | apply pw_below_drewN | apply below_drew1) | exact HB.out)⟩
        · replace c11 := Bool.eq_false_iff.mpr c11
          subst c11
          have H1 : ((laws_wrLong.f kj6 (wrap64 (a0)) a3).bind fun t131 => ((laws_wrChunks.f kj6 t131 l4).bind fun t132 => ((Given.WrFull.f t132 (wrap64 (a1)) (wrap64 (a2))).bind fun bt135 => ((Given.WrFull.f (([(⟨#[97, 98]⟩ : ByteArray), (⟨#[99]⟩ : ByteArray)] : List ByteArray)) 1 3).bind fun bt140 => (if bt140.2 = true then (if (bt135.2 == (decide (a2 ≤ a0))) = true then (if bt135.2 = true then (if 0 ≤ a2 then (if a2 ≤ (t131.size : Int) then (some (bt135.1.toList == (t131.extract 0 (a2 : Int).toNat).toList)) else (none)) else (none)) else (some true)) else (some false)) else (some false)))))) = some r := by rw [if_neg (show ¬ (false = true) by decide)] at H; exact H
          clear H
          have H := H1
          clear H1
          replace H := Option.bind_eq_some_iff.mp H
          obtain ⟨t131, A120, H⟩ := H
          replace H : ((laws_wrChunks.f kj6 t131 l4).bind fun t132 => ((Given.WrFull.f t132 (wrap64 (a1)) (wrap64 (a2))).bind fun bt135 => ((Given.WrFull.f (([(⟨#[97, 98]⟩ : ByteArray), (⟨#[99]⟩ : ByteArray)] : List ByteArray)) 1 3).bind fun bt140 => (if bt140.2 = true then (if (bt135.2 == (decide (a2 ≤ a0))) = true then (if bt135.2 = true then (if 0 ≤ a2 then (if a2 ≤ (t131.size : Int) then (some (bt135.1.toList == (t131.extract 0 (a2 : Int).toNat).toList)) else (none)) else (none)) else (some true)) else (some false)) else (some false))))) = some r := H
          have A12 := Aside0.mk A120
          clear A120
          replace H := Option.bind_eq_some_iff.mp H
          obtain ⟨t132, A130, H⟩ := H
          replace H : ((Given.WrFull.f t132 (wrap64 (a1)) (wrap64 (a2))).bind fun bt135 => ((Given.WrFull.f (([(⟨#[97, 98]⟩ : ByteArray), (⟨#[99]⟩ : ByteArray)] : List ByteArray)) 1 3).bind fun bt140 => (if bt140.2 = true then (if (bt135.2 == (decide (a2 ≤ a0))) = true then (if bt135.2 = true then (if 0 ≤ a2 then (if a2 ≤ (t131.size : Int) then (some (bt135.1.toList == (t131.extract 0 (a2 : Int).toNat).toList)) else (none)) else (none)) else (some true)) else (some false)) else (some false)))) = some r := H
          have A13 := Aside0.mk A130
          clear A130
          replace H := Option.bind_eq_some_iff.mp H
          obtain ⟨⟨t135, t136⟩, A140, H⟩ := H
          replace H : ((Given.WrFull.f (([(⟨#[97, 98]⟩ : ByteArray), (⟨#[99]⟩ : ByteArray)] : List ByteArray)) 1 3).bind fun bt140 => (if bt140.2 = true then (if (t136 == (decide (a2 ≤ a0))) = true then (if t136 = true then (if 0 ≤ a2 then (if a2 ≤ (t131.size : Int) then (some (t135.toList == (t131.extract 0 (a2 : Int).toNat).toList)) else (none)) else (none)) else (some true)) else (some false)) else (some false))) = some r := H
          have A14 := Aside0.mk A140
          clear A140
          obtain ⟨y137, hy137⟩ : ∃ y_ : List ByteArray, y_ = (([(⟨#[97, 98]⟩ : ByteArray), (⟨#[99]⟩ : ByteArray)] : List ByteArray)) := ⟨_, rfl⟩
          replace H : ((Given.WrFull.f y137 1 3).bind fun bt140 => (if bt140.2 = true then (if (t136 == (decide (a2 ≤ a0))) = true then (if t136 = true then (if 0 ≤ a2 then (if a2 ≤ (t131.size : Int) then (some (t135.toList == (t131.extract 0 (a2 : Int).toNat).toList)) else (none)) else (none)) else (some true)) else (some false)) else (some false))) = some r := by first | (rw [hy137]; with_reducible exact H) | (have H2_ := (Option.bind_some _ _).symm.trans H; rw [hy137]; with_reducible exact H2_) | (have H2_ := (Option.bind_some _ _).symm.trans H; with_reducible exact H2_) | with_reducible exact H | (rw [hy137]; exact H) | exact H
          have Ny137 := Aside0.mk hy137
          clear hy137
          replace H := Option.bind_eq_some_iff.mp H
          obtain ⟨⟨t140, t141⟩, A150, H⟩ := H
          replace H : (if t141 = true then (if (t136 == (decide (a2 ≤ a0))) = true then (if t136 = true then (if 0 ≤ a2 then (if a2 ≤ (t131.size : Int) then (some (t135.toList == (t131.extract 0 (a2 : Int).toNat).toList)) else (none)) else (none)) else (some true)) else (some false)) else (some false)) = some r := H
          have A15 := Aside0.mk A150
          clear A150
          by_cases c16 : t141 = true
          · subst c16
            have H1 : (if (t136 == (decide (a2 ≤ a0))) = true then (if t136 = true then (if 0 ≤ a2 then (if a2 ≤ (t131.size : Int) then (some (t135.toList == (t131.extract 0 (a2 : Int).toNat).toList)) else (none)) else (none)) else (some true)) else (some false)) = some r := by rw [if_pos rfl] at H; exact H
            clear H
            have H := H1
            clear H1
            by_cases c17 : (t136 == (decide (a2 ≤ a0))) = true
            · rw [if_pos c17] at H
              have c17b0 : (t136 == (decide (a2 ≤ a0))) = true := c17
              (try (have c17b1 : decide (t136 = (decide (a2 ≤ a0))) = true := by simpa using c17))
              (try (have c17b2 : (t136 == (decide (a2 ≤ a0))) = true := by simpa using c17))
              clear c17
              by_cases c18 : t136 = true
              · subst c18
                have H1 : (if 0 ≤ a2 then (if a2 ≤ (t131.size : Int) then (some (t135.toList == (t131.extract 0 (a2 : Int).toNat).toList)) else (none)) else (none)) = some r := by rw [if_pos rfl] at H; exact H
                clear H
                have H := H1
                clear H1
                by_cases c19 : 0 ≤ a2
                · rw [if_pos c19] at H
                  have c19b0 := eq_true c19
                  have c19b1 : decide (0 ≤ a2) = true := decide_eq_true c19
                  clear c19
                  by_cases c20 : a2 ≤ (t131.size : Int)
                  · rw [if_pos c20] at H
                    have c20b0 := eq_true c20
                    have c20b1 : decide (a2 ≤ (t131.size : Int)) = true := decide_eq_true c20
                    clear c20
                    obtain rfl := Option.some.inj H
                    go_wp2_with (first | ((with_reducible refine gate_callee (f := 6) rfl ?_); refine goesL_ (some 37) rfl rfl Tryd.func6 (by kernel_rfl) rfl #[.int .i64 (wrap64 (a0)), .int .u8 a3] rfl (by (try simp only [List.map_toArray, List.map_cons, List.map_nil]); first | done | rfl | (simp only [List.length_drop, List.length_take]; rfl)) ?_; (with_reducible refine (laws_wrLong.calls kj6 (wrap64 (a0)) a3 t131 _ A12.out).mono ?_); rintro e w21 ⟨rfl, hb⟩; refine ⟨_, rfl, ?_⟩; have n0_ := Aside0.mk (below_step (by repeat (first | (with_reducible first | exact HB.out | apply below_alloc | apply pw_below_drewN | apply below_drew1) | exact HB.out)) hb); clear HB; have HB := n0_; clear n0_; (try clear hb); (try clear hb2); (try clear hk); (try clear hi)) | ((with_reducible refine gate_callee (f := 8) rfl ?_); refine goesL_ (some 41) rfl rfl Tryd.func8 (by kernel_rfl) rfl #[.string t131, .slice A4 l4.length c4] rfl (by (try simp only [List.map_toArray, List.map_cons, List.map_nil]); first | done | rfl | (simp only [List.length_drop, List.length_take]; rfl)) ?_; (with_reducible refine (laws_wrChunks.calls kj6 t131 _ _ l4 t132 _ ?side1 ?side2 A13.out).mono ?_); (case side1 => repeat (first | exact (Kd.C_below HR4.out HB.out) | (with_reducible refine Kd.C_alloc ?_ _) | (with_reducible refine Kd.C_drewN ?_ _) | (with_reducible refine Kd.C_drew ?_))); (case side2 => exact HC4.out); rintro e w22 ⟨v133, rfl, ho0, hb⟩; refine ⟨_, rfl, ?_⟩; have n0_ := Aside0.mk (Kd.R_lower ho0 (below_size (by repeat (first | (with_reducible first | exact HB.out | apply below_alloc | apply pw_below_drewN | apply below_drew1) | exact HB.out)))); have n1_ := Aside0.mk (below_step (by repeat (first | (with_reducible first | exact HB.out | apply below_alloc | apply pw_below_drewN | apply below_drew1) | exact HB.out)) hb); clear HB; have HO134 := n0_; have HB := n1_; clear n0_ n1_; (try clear hb); (try clear hb2); (try clear hk); (try clear hi); (try clear ho0); obtain ⟨Ao23, co23, eo23⟩ := Kd.R_slice HO134.out; subst eo23) | ((with_reducible refine gate_callee (f := 7) rfl ?_); refine goesL_ (some 46) rfl rfl Tryd.func7 (by kernel_rfl) rfl #[.slice Ao23 t132.length co23, .int .i64 (wrap64 (a1)), .int .i64 (wrap64 (a2))] rfl (by (try simp only [List.map_toArray, List.map_cons, List.map_nil]); first | done | rfl | (simp only [List.length_drop, List.length_take]; rfl)) ?_; (with_reducible refine (Given.WrFull.calls _ _ t132 (wrap64 (a1)) (wrap64 (a2)) t135 true _ ?side1 ?side2 ?sideG A14.out).mono ?_); (case sideG => exact Given.Glob.below HG.out (by repeat (first | (with_reducible first | exact HB.out | apply below_alloc | apply pw_below_drewN | apply below_drew1) | exact HB.out))); (case side1 => repeat (first | exact (Kd.R_reads' HO134.out).2.2 | (with_reducible refine Kd.C_alloc ?_ _) | (with_reducible refine Kd.C_drewN ?_ _) | (with_reducible refine Kd.C_drew ?_))); (case side2 => exact (Kd.R_reads' HO134.out).2.1); rintro e w24 ⟨rfl, hb⟩; refine ⟨_, rfl, ?_⟩; have n0_ := Aside0.mk (Kd.R_below (by (with_reducible repeat (first | apply Kd.R_alloc | apply Kd.R_drewN | apply Kd.R_drew)); exact HO134.out) hb); have n1_ := Aside0.mk (below_step (by repeat (first | (with_reducible first | exact HB.out | apply below_alloc | apply pw_below_drewN | apply below_drew1) | exact HB.out)) hb); clear HO134; clear HB; have HO134 := n0_; have HB := n1_; clear n0_ n1_; (try clear hb); (try clear hb2); (try clear hk); (try clear hi)) | ((with_reducible refine gate_dst (N := 50) rfl ?_); (try (refine gate_guard (by rfl) ?_; dsimp only)); refine Kd.R_lit Kd.string _ 9 ?hg (N := 50) ?hd (xs := ([(⟨#[97, 98]⟩ : ByteArray), (⟨#[99]⟩ : ByteArray)] : List ByteArray)) (inner := [.string (⟨#[97, 98]⟩ : ByteArray), .string (⟨#[99]⟩ : ByteArray)]) (ok := fun _ => True) (okp := fun _ => True) ?hr ?hp (fun _ hk => hk) trivial (Below.refl _ _) (Nat.le_refl _) (by simp) ?_; (case hd => rfl); (case hg => rfl); (case hr => first | (go_simp; done) | (go_simp; rfl)); (case hp => exact (Reps.one (show Kd.M Kd.string _ _ _ (⟨#[97, 98]⟩ : ByteArray) [.string (⟨#[97, 98]⟩ : ByteArray)] from rfl) (Reps.one (show Kd.M Kd.string _ _ _ (⟨#[99]⟩ : ByteArray) [.string (⟨#[99]⟩ : ByteArray)] from rfl) (Reps.none _ _)))); intro v138 w25 ho26 hb hg_ hnew_; clear hg_ hnew_; (first | rw [← Ny137.out] at ho26 | (simp only [Int.reduceToNat] at ho26; rw [← Ny137.out] at ho26)); have n0_ := Aside0.mk (Kd.R_elder' (by (with_reducible repeat (first | apply Kd.R_alloc | apply Kd.R_drewN | apply Kd.R_drew)); exact HO134.out) (Kd.R_base ho26) hb); have n1_ := Aside0.mk (Kd.R_lower (Kd.R_new' ho26 (Kd.R_lt (by (with_reducible repeat (first | apply Kd.R_alloc | apply Kd.R_drewN | apply Kd.R_drew)); exact HO134.out))) (below_size (by repeat (first | (with_reducible first | exact HB.out | apply below_alloc | apply pw_below_drewN | apply below_drew1) | exact HB.out)))); have n2_ := Aside0.mk (below_step (by repeat (first | (with_reducible first | exact HB.out | apply below_alloc | apply pw_below_drewN | apply below_drew1) | exact HB.out)) hb); clear HO134; clear HB; have HO134 := n0_; have HO139 := n1_; have HB := n2_; clear n0_ n1_ n2_; clear hb ho26; obtain ⟨Ao27, co27, eo27⟩ := Kd.R_slice HO139.out; subst eo27) | ((with_reducible refine gate_callee (f := 7) rfl ?_); refine goesL_ (some 51) rfl rfl Tryd.func7 (by kernel_rfl) rfl #[.slice Ao27 y137.length co27, .int .i64 1, .int .i64 3] rfl (by (try simp only [List.map_toArray, List.map_cons, List.map_nil]); first | done | rfl | (simp only [List.length_drop, List.length_take]; rfl)) ?_; (with_reducible refine (Given.WrFull.calls _ _ y137 1 3 t140 true _ ?side1 ?side2 ?sideG A15.out).mono ?_); (case sideG => exact Given.Glob.below HG.out (by repeat (first | (with_reducible first | exact HB.out | apply below_alloc | apply pw_below_drewN | apply below_drew1) | exact HB.out))); (case side1 => repeat (first | exact (Kd.R_reads' HO139.out).2.2 | (with_reducible refine Kd.C_alloc ?_ _) | (with_reducible refine Kd.C_drewN ?_ _) | (with_reducible refine Kd.C_drew ?_))); (case side2 => exact (Kd.R_reads' HO139.out).2.1); rintro e w28 ⟨rfl, hb⟩; refine ⟨_, rfl, ?_⟩; have n0_ := Aside0.mk (Kd.R_below (by (with_reducible repeat (first | apply Kd.R_alloc | apply Kd.R_drewN | apply Kd.R_drew)); exact HO134.out) hb); have n1_ := Aside0.mk (Kd.R_below (by (with_reducible repeat (first | apply Kd.R_alloc | apply Kd.R_drewN | apply Kd.R_drew)); exact HO139.out) hb); have n2_ := Aside0.mk (below_step (by repeat (first | (with_reducible first | exact HB.out | apply below_alloc | apply pw_below_drewN | apply below_drew1) | exact HB.out)) hb); clear HO134; clear HO139; clear HB; have HO134 := n0_; have HO139 := n1_; have HB := n2_; clear n0_ n1_ n2_; (try clear hb); (try clear hb2); (try clear hk); (try clear hi)))
                    go_ret
                    exact ⟨by first | rfl | (simp [errW_none, errW_some] <;> rfl) | (simp [*, errW_none, errW_some] <;> rfl), by repeat (first | (with_reducible first | exact HB.out | apply below_alloc | apply pw_below_drewN | apply below_drew1) | exact HB.out)⟩
                  · rw [if_neg c20] at H
                    exact absurd H (by simp)
                · rw [if_neg c19] at H
                  exact absurd H (by simp)
              · replace c18 := Bool.eq_false_iff.mpr c18
                subst c18
                have H1 : (some true) = some r := by rw [if_neg (show ¬ (false = true) by decide)] at H; exact H
                clear H
                have H := H1
                clear H1
                obtain rfl := Option.some.inj H
                go_wp2_with (first | ((with_reducible refine gate_callee (f := 6) rfl ?_); refine goesL_ (some 37) rfl rfl Tryd.func6 (by kernel_rfl) rfl #[.int .i64 (wrap64 (a0)), .int .u8 a3] rfl (by (try simp only [List.map_toArray, List.map_cons, List.map_nil]); first | done | rfl | (simp only [List.length_drop, List.length_take]; rfl)) ?_; (with_reducible refine (laws_wrLong.calls kj6 (wrap64 (a0)) a3 t131 _ A12.out).mono ?_); rintro e w29 ⟨rfl, hb⟩; refine ⟨_, rfl, ?_⟩; have n0_ := Aside0.mk (below_step (by repeat (first | (with_reducible first | exact HB.out | apply below_alloc | apply pw_below_drewN | apply below_drew1) | exact HB.out)) hb); clear HB; have HB := n0_; clear n0_; (try clear hb); (try clear hb2); (try clear hk); (try clear hi)) | ((with_reducible refine gate_callee (f := 8) rfl ?_); refine goesL_ (some 41) rfl rfl Tryd.func8 (by kernel_rfl) rfl #[.string t131, .slice A4 l4.length c4] rfl (by (try simp only [List.map_toArray, List.map_cons, List.map_nil]); first | done | rfl | (simp only [List.length_drop, List.length_take]; rfl)) ?_; (with_reducible refine (laws_wrChunks.calls kj6 t131 _ _ l4 t132 _ ?side1 ?side2 A13.out).mono ?_); (case side1 => repeat (first | exact (Kd.C_below HR4.out HB.out) | (with_reducible refine Kd.C_alloc ?_ _) | (with_reducible refine Kd.C_drewN ?_ _) | (with_reducible refine Kd.C_drew ?_))); (case side2 => exact HC4.out); rintro e w30 ⟨v133, rfl, ho0, hb⟩; refine ⟨_, rfl, ?_⟩; have n0_ := Aside0.mk (Kd.R_lower ho0 (below_size (by repeat (first | (with_reducible first | exact HB.out | apply below_alloc | apply pw_below_drewN | apply below_drew1) | exact HB.out)))); have n1_ := Aside0.mk (below_step (by repeat (first | (with_reducible first | exact HB.out | apply below_alloc | apply pw_below_drewN | apply below_drew1) | exact HB.out)) hb); clear HB; have HO134 := n0_; have HB := n1_; clear n0_ n1_; (try clear hb); (try clear hb2); (try clear hk); (try clear hi); (try clear ho0); obtain ⟨Ao31, co31, eo31⟩ := Kd.R_slice HO134.out; subst eo31) | ((with_reducible refine gate_callee (f := 7) rfl ?_); refine goesL_ (some 46) rfl rfl Tryd.func7 (by kernel_rfl) rfl #[.slice Ao31 t132.length co31, .int .i64 (wrap64 (a1)), .int .i64 (wrap64 (a2))] rfl (by (try simp only [List.map_toArray, List.map_cons, List.map_nil]); first | done | rfl | (simp only [List.length_drop, List.length_take]; rfl)) ?_; (with_reducible refine (Given.WrFull.calls _ _ t132 (wrap64 (a1)) (wrap64 (a2)) t135 false _ ?side1 ?side2 ?sideG A14.out).mono ?_); (case sideG => exact Given.Glob.below HG.out (by repeat (first | (with_reducible first | exact HB.out | apply below_alloc | apply pw_below_drewN | apply below_drew1) | exact HB.out))); (case side1 => repeat (first | exact (Kd.R_reads' HO134.out).2.2 | (with_reducible refine Kd.C_alloc ?_ _) | (with_reducible refine Kd.C_drewN ?_ _) | (with_reducible refine Kd.C_drew ?_))); (case side2 => exact (Kd.R_reads' HO134.out).2.1); rintro e w32 ⟨rfl, hb⟩; refine ⟨_, rfl, ?_⟩; have n0_ := Aside0.mk (Kd.R_below (by (with_reducible repeat (first | apply Kd.R_alloc | apply Kd.R_drewN | apply Kd.R_drew)); exact HO134.out) hb); have n1_ := Aside0.mk (below_step (by repeat (first | (with_reducible first | exact HB.out | apply below_alloc | apply pw_below_drewN | apply below_drew1) | exact HB.out)) hb); clear HO134; clear HB; have HO134 := n0_; have HB := n1_; clear n0_ n1_; (try clear hb); (try clear hb2); (try clear hk); (try clear hi)) | ((with_reducible refine gate_dst (N := 50) rfl ?_); (try (refine gate_guard (by rfl) ?_; dsimp only)); refine Kd.R_lit Kd.string _ 9 ?hg (N := 50) ?hd (xs := ([(⟨#[97, 98]⟩ : ByteArray), (⟨#[99]⟩ : ByteArray)] : List ByteArray)) (inner := [.string (⟨#[97, 98]⟩ : ByteArray), .string (⟨#[99]⟩ : ByteArray)]) (ok := fun _ => True) (okp := fun _ => True) ?hr ?hp (fun _ hk => hk) trivial (Below.refl _ _) (Nat.le_refl _) (by simp) ?_; (case hd => rfl); (case hg => rfl); (case hr => first | (go_simp; done) | (go_simp; rfl)); (case hp => exact (Reps.one (show Kd.M Kd.string _ _ _ (⟨#[97, 98]⟩ : ByteArray) [.string (⟨#[97, 98]⟩ : ByteArray)] from rfl) (Reps.one (show Kd.M Kd.string _ _ _ (⟨#[99]⟩ : ByteArray) [.string (⟨#[99]⟩ : ByteArray)] from rfl) (Reps.none _ _)))); intro v138 w33 ho34 hb hg_ hnew_; clear hg_ hnew_; (first | rw [← Ny137.out] at ho34 | (simp only [Int.reduceToNat] at ho34; rw [← Ny137.out] at ho34)); have n0_ := Aside0.mk (Kd.R_elder' (by (with_reducible repeat (first | apply Kd.R_alloc | apply Kd.R_drewN | apply Kd.R_drew)); exact HO134.out) (Kd.R_base ho34) hb); have n1_ := Aside0.mk (Kd.R_lower (Kd.R_new' ho34 (Kd.R_lt (by (with_reducible repeat (first | apply Kd.R_alloc | apply Kd.R_drewN | apply Kd.R_drew)); exact HO134.out))) (below_size (by repeat (first | (with_reducible first | exact HB.out | apply below_alloc | apply pw_below_drewN | apply below_drew1) | exact HB.out)))); have n2_ := Aside0.mk (below_step (by repeat (first | (with_reducible first | exact HB.out | apply below_alloc | apply pw_below_drewN | apply below_drew1) | exact HB.out)) hb); clear HO134; clear HB; have HO134 := n0_; have HO139 := n1_; have HB := n2_; clear n0_ n1_ n2_; clear hb ho34; obtain ⟨Ao35, co35, eo35⟩ := Kd.R_slice HO139.out; subst eo35) | ((with_reducible refine gate_callee (f := 7) rfl ?_); refine goesL_ (some 51) rfl rfl Tryd.func7 (by kernel_rfl) rfl #[.slice Ao35 y137.length co35, .int .i64 1, .int .i64 3] rfl (by (try simp only [List.map_toArray, List.map_cons, List.map_nil]); first | done | rfl | (simp only [List.length_drop, List.length_take]; rfl)) ?_; (with_reducible refine (Given.WrFull.calls _ _ y137 1 3 t140 true _ ?side1 ?side2 ?sideG A15.out).mono ?_); (case sideG => exact Given.Glob.below HG.out (by repeat (first | (with_reducible first | exact HB.out | apply below_alloc | apply pw_below_drewN | apply below_drew1) | exact HB.out))); (case side1 => repeat (first | exact (Kd.R_reads' HO139.out).2.2 | (with_reducible refine Kd.C_alloc ?_ _) | (with_reducible refine Kd.C_drewN ?_ _) | (with_reducible refine Kd.C_drew ?_))); (case side2 => exact (Kd.R_reads' HO139.out).2.1); rintro e w36 ⟨rfl, hb⟩; refine ⟨_, rfl, ?_⟩; have n0_ := Aside0.mk (Kd.R_below (by (with_reducible repeat (first | apply Kd.R_alloc | apply Kd.R_drewN | apply Kd.R_drew)); exact HO134.out) hb); have n1_ := Aside0.mk (Kd.R_below (by (with_reducible repeat (first | apply Kd.R_alloc | apply Kd.R_drewN | apply Kd.R_drew)); exact HO139.out) hb); have n2_ := Aside0.mk (below_step (by repeat (first | (with_reducible first | exact HB.out | apply below_alloc | apply pw_below_drewN | apply below_drew1) | exact HB.out)) hb); clear HO134; clear HO139; clear HB; have HO134 := n0_; have HO139 := n1_; have HB := n2_; clear n0_ n1_ n2_; (try clear hb); (try clear hb2); (try clear hk); (try clear hi)))
                go_ret
                exact ⟨by first | rfl | (simp [errW_none, errW_some] <;> rfl) | (simp [*, errW_none, errW_some] <;> rfl), by repeat (first | (with_reducible first | exact HB.out | apply below_alloc | apply pw_below_drewN | apply below_drew1) | exact HB.out)⟩
            · rw [if_neg c17] at H
              have c17b0 : (t136 == (decide (a2 ≤ a0))) = false := by simpa using c17
              (try (have c17b1 : decide (t136 = (decide (a2 ≤ a0))) = false := by simpa using c17))
              (try (have c17b2 : (t136 == (decide (a2 ≤ a0))) = false := by simpa using c17))
              (try (have c17b3 : ¬ (t136 = (decide (a2 ≤ a0))) := by simpa using c17))
              clear c17
              obtain rfl := Option.some.inj H
              go_wp2_with (first | ((with_reducible refine gate_callee (f := 6) rfl ?_); refine goesL_ (some 37) rfl rfl Tryd.func6 (by kernel_rfl) rfl #[.int .i64 (wrap64 (a0)), .int .u8 a3] rfl (by (try simp only [List.map_toArray, List.map_cons, List.map_nil]); first | done | rfl | (simp only [List.length_drop, List.length_take]; rfl)) ?_; (with_reducible refine (laws_wrLong.calls kj6 (wrap64 (a0)) a3 t131 _ A12.out).mono ?_); rintro e w37 ⟨rfl, hb⟩; refine ⟨_, rfl, ?_⟩; have n0_ := Aside0.mk (below_step (by repeat (first | (with_reducible first | exact HB.out | apply below_alloc | apply pw_below_drewN | apply below_drew1) | exact HB.out)) hb); clear HB; have HB := n0_; clear n0_; (try clear hb); (try clear hb2); (try clear hk); (try clear hi)) | ((with_reducible refine gate_callee (f := 8) rfl ?_); refine goesL_ (some 41) rfl rfl Tryd.func8 (by kernel_rfl) rfl #[.string t131, .slice A4 l4.length c4] rfl (by (try simp only [List.map_toArray, List.map_cons, List.map_nil]); first | done | rfl | (simp only [List.length_drop, List.length_take]; rfl)) ?_; (with_reducible refine (laws_wrChunks.calls kj6 t131 _ _ l4 t132 _ ?side1 ?side2 A13.out).mono ?_); (case side1 => repeat (first | exact (Kd.C_below HR4.out HB.out) | (with_reducible refine Kd.C_alloc ?_ _) | (with_reducible refine Kd.C_drewN ?_ _) | (with_reducible refine Kd.C_drew ?_))); (case side2 => exact HC4.out); rintro e w38 ⟨v133, rfl, ho0, hb⟩; refine ⟨_, rfl, ?_⟩; have n0_ := Aside0.mk (Kd.R_lower ho0 (below_size (by repeat (first | (with_reducible first | exact HB.out | apply below_alloc | apply pw_below_drewN | apply below_drew1) | exact HB.out)))); have n1_ := Aside0.mk (below_step (by repeat (first | (with_reducible first | exact HB.out | apply below_alloc | apply pw_below_drewN | apply below_drew1) | exact HB.out)) hb); clear HB; have HO134 := n0_; have HB := n1_; clear n0_ n1_; (try clear hb); (try clear hb2); (try clear hk); (try clear hi); (try clear ho0); obtain ⟨Ao39, co39, eo39⟩ := Kd.R_slice HO134.out; subst eo39) | ((with_reducible refine gate_callee (f := 7) rfl ?_); refine goesL_ (some 46) rfl rfl Tryd.func7 (by kernel_rfl) rfl #[.slice Ao39 t132.length co39, .int .i64 (wrap64 (a1)), .int .i64 (wrap64 (a2))] rfl (by (try simp only [List.map_toArray, List.map_cons, List.map_nil]); first | done | rfl | (simp only [List.length_drop, List.length_take]; rfl)) ?_; (with_reducible refine (Given.WrFull.calls _ _ t132 (wrap64 (a1)) (wrap64 (a2)) t135 t136 _ ?side1 ?side2 ?sideG A14.out).mono ?_); (case sideG => exact Given.Glob.below HG.out (by repeat (first | (with_reducible first | exact HB.out | apply below_alloc | apply pw_below_drewN | apply below_drew1) | exact HB.out))); (case side1 => repeat (first | exact (Kd.R_reads' HO134.out).2.2 | (with_reducible refine Kd.C_alloc ?_ _) | (with_reducible refine Kd.C_drewN ?_ _) | (with_reducible refine Kd.C_drew ?_))); (case side2 => exact (Kd.R_reads' HO134.out).2.1); rintro e w40 ⟨rfl, hb⟩; refine ⟨_, rfl, ?_⟩; have n0_ := Aside0.mk (Kd.R_below (by (with_reducible repeat (first | apply Kd.R_alloc | apply Kd.R_drewN | apply Kd.R_drew)); exact HO134.out) hb); have n1_ := Aside0.mk (below_step (by repeat (first | (with_reducible first | exact HB.out | apply below_alloc | apply pw_below_drewN | apply below_drew1) | exact HB.out)) hb); clear HO134; clear HB; have HO134 := n0_; have HB := n1_; clear n0_ n1_; (try clear hb); (try clear hb2); (try clear hk); (try clear hi)) | ((with_reducible refine gate_dst (N := 50) rfl ?_); (try (refine gate_guard (by rfl) ?_; dsimp only)); refine Kd.R_lit Kd.string _ 9 ?hg (N := 50) ?hd (xs := ([(⟨#[97, 98]⟩ : ByteArray), (⟨#[99]⟩ : ByteArray)] : List ByteArray)) (inner := [.string (⟨#[97, 98]⟩ : ByteArray), .string (⟨#[99]⟩ : ByteArray)]) (ok := fun _ => True) (okp := fun _ => True) ?hr ?hp (fun _ hk => hk) trivial (Below.refl _ _) (Nat.le_refl _) (by simp) ?_; (case hd => rfl); (case hg => rfl); (case hr => first | (go_simp; done) | (go_simp; rfl)); (case hp => exact (Reps.one (show Kd.M Kd.string _ _ _ (⟨#[97, 98]⟩ : ByteArray) [.string (⟨#[97, 98]⟩ : ByteArray)] from rfl) (Reps.one (show Kd.M Kd.string _ _ _ (⟨#[99]⟩ : ByteArray) [.string (⟨#[99]⟩ : ByteArray)] from rfl) (Reps.none _ _)))); intro v138 w41 ho42 hb hg_ hnew_; clear hg_ hnew_; (first | rw [← Ny137.out] at ho42 | (simp only [Int.reduceToNat] at ho42; rw [← Ny137.out] at ho42)); have n0_ := Aside0.mk (Kd.R_elder' (by (with_reducible repeat (first | apply Kd.R_alloc | apply Kd.R_drewN | apply Kd.R_drew)); exact HO134.out) (Kd.R_base ho42) hb); have n1_ := Aside0.mk (Kd.R_lower (Kd.R_new' ho42 (Kd.R_lt (by (with_reducible repeat (first | apply Kd.R_alloc | apply Kd.R_drewN | apply Kd.R_drew)); exact HO134.out))) (below_size (by repeat (first | (with_reducible first | exact HB.out | apply below_alloc | apply pw_below_drewN | apply below_drew1) | exact HB.out)))); have n2_ := Aside0.mk (below_step (by repeat (first | (with_reducible first | exact HB.out | apply below_alloc | apply pw_below_drewN | apply below_drew1) | exact HB.out)) hb); clear HO134; clear HB; have HO134 := n0_; have HO139 := n1_; have HB := n2_; clear n0_ n1_ n2_; clear hb ho42; obtain ⟨Ao43, co43, eo43⟩ := Kd.R_slice HO139.out; subst eo43) | ((with_reducible refine gate_callee (f := 7) rfl ?_); refine goesL_ (some 51) rfl rfl Tryd.func7 (by kernel_rfl) rfl #[.slice Ao43 y137.length co43, .int .i64 1, .int .i64 3] rfl (by (try simp only [List.map_toArray, List.map_cons, List.map_nil]); first | done | rfl | (simp only [List.length_drop, List.length_take]; rfl)) ?_; (with_reducible refine (Given.WrFull.calls _ _ y137 1 3 t140 true _ ?side1 ?side2 ?sideG A15.out).mono ?_); (case sideG => exact Given.Glob.below HG.out (by repeat (first | (with_reducible first | exact HB.out | apply below_alloc | apply pw_below_drewN | apply below_drew1) | exact HB.out))); (case side1 => repeat (first | exact (Kd.R_reads' HO139.out).2.2 | (with_reducible refine Kd.C_alloc ?_ _) | (with_reducible refine Kd.C_drewN ?_ _) | (with_reducible refine Kd.C_drew ?_))); (case side2 => exact (Kd.R_reads' HO139.out).2.1); rintro e w44 ⟨rfl, hb⟩; refine ⟨_, rfl, ?_⟩; have n0_ := Aside0.mk (Kd.R_below (by (with_reducible repeat (first | apply Kd.R_alloc | apply Kd.R_drewN | apply Kd.R_drew)); exact HO134.out) hb); have n1_ := Aside0.mk (Kd.R_below (by (with_reducible repeat (first | apply Kd.R_alloc | apply Kd.R_drewN | apply Kd.R_drew)); exact HO139.out) hb); have n2_ := Aside0.mk (below_step (by repeat (first | (with_reducible first | exact HB.out | apply below_alloc | apply pw_below_drewN | apply below_drew1) | exact HB.out)) hb); clear HO134; clear HO139; clear HB; have HO134 := n0_; have HO139 := n1_; have HB := n2_; clear n0_ n1_ n2_; (try clear hb); (try clear hb2); (try clear hk); (try clear hi)))
              go_ret
              exact ⟨by first | rfl | (simp [errW_none, errW_some] <;> rfl) | (simp [*, errW_none, errW_some] <;> rfl), by repeat (first | (with_reducible first | exact HB.out | apply below_alloc | apply pw_below_drewN | apply below_drew1) | exact HB.out)⟩
          · replace c16 := Bool.eq_false_iff.mpr c16
            subst c16
            have H1 : (some false) = some r := by rw [if_neg (show ¬ (false = true) by decide)] at H; exact H
            clear H
            have H := H1
            clear H1
            obtain rfl := Option.some.inj H
            go_wp2_with (first | ((with_reducible refine gate_callee (f := 6) rfl ?_); refine goesL_ (some 37) rfl rfl Tryd.func6 (by kernel_rfl) rfl #[.int .i64 (wrap64 (a0)), .int .u8 a3] rfl (by (try simp only [List.map_toArray, List.map_cons, List.map_nil]); first | done | rfl | (simp only [List.length_drop, List.length_take]; rfl)) ?_; (with_reducible refine (laws_wrLong.calls kj6 (wrap64 (a0)) a3 t131 _ A12.out).mono ?_); rintro e w45 ⟨rfl, hb⟩; refine ⟨_, rfl, ?_⟩; have n0_ := Aside0.mk (below_step (by repeat (first | (with_reducible first | exact HB.out | apply below_alloc | apply pw_below_drewN | apply below_drew1) | exact HB.out)) hb); clear HB; have HB := n0_; clear n0_; (try clear hb); (try clear hb2); (try clear hk); (try clear hi)) | ((with_reducible refine gate_callee (f := 8) rfl ?_); refine goesL_ (some 41) rfl rfl Tryd.func8 (by kernel_rfl) rfl #[.string t131, .slice A4 l4.length c4] rfl (by (try simp only [List.map_toArray, List.map_cons, List.map_nil]); first | done | rfl | (simp only [List.length_drop, List.length_take]; rfl)) ?_; (with_reducible refine (laws_wrChunks.calls kj6 t131 _ _ l4 t132 _ ?side1 ?side2 A13.out).mono ?_); (case side1 => repeat (first | exact (Kd.C_below HR4.out HB.out) | (with_reducible refine Kd.C_alloc ?_ _) | (with_reducible refine Kd.C_drewN ?_ _) | (with_reducible refine Kd.C_drew ?_))); (case side2 => exact HC4.out); rintro e w46 ⟨v133, rfl, ho0, hb⟩; refine ⟨_, rfl, ?_⟩; have n0_ := Aside0.mk (Kd.R_lower ho0 (below_size (by repeat (first | (with_reducible first | exact HB.out | apply below_alloc | apply pw_below_drewN | apply below_drew1) | exact HB.out)))); have n1_ := Aside0.mk (below_step (by repeat (first | (with_reducible first | exact HB.out | apply below_alloc | apply pw_below_drewN | apply below_drew1) | exact HB.out)) hb); clear HB; have HO134 := n0_; have HB := n1_; clear n0_ n1_; (try clear hb); (try clear hb2); (try clear hk); (try clear hi); (try clear ho0); obtain ⟨Ao47, co47, eo47⟩ := Kd.R_slice HO134.out; subst eo47) | ((with_reducible refine gate_callee (f := 7) rfl ?_); refine goesL_ (some 46) rfl rfl Tryd.func7 (by kernel_rfl) rfl #[.slice Ao47 t132.length co47, .int .i64 (wrap64 (a1)), .int .i64 (wrap64 (a2))] rfl (by (try simp only [List.map_toArray, List.map_cons, List.map_nil]); first | done | rfl | (simp only [List.length_drop, List.length_take]; rfl)) ?_; (with_reducible refine (Given.WrFull.calls _ _ t132 (wrap64 (a1)) (wrap64 (a2)) t135 t136 _ ?side1 ?side2 ?sideG A14.out).mono ?_); (case sideG => exact Given.Glob.below HG.out (by repeat (first | (with_reducible first | exact HB.out | apply below_alloc | apply pw_below_drewN | apply below_drew1) | exact HB.out))); (case side1 => repeat (first | exact (Kd.R_reads' HO134.out).2.2 | (with_reducible refine Kd.C_alloc ?_ _) | (with_reducible refine Kd.C_drewN ?_ _) | (with_reducible refine Kd.C_drew ?_))); (case side2 => exact (Kd.R_reads' HO134.out).2.1); rintro e w48 ⟨rfl, hb⟩; refine ⟨_, rfl, ?_⟩; have n0_ := Aside0.mk (Kd.R_below (by (with_reducible repeat (first | apply Kd.R_alloc | apply Kd.R_drewN | apply Kd.R_drew)); exact HO134.out) hb); have n1_ := Aside0.mk (below_step (by repeat (first | (with_reducible first | exact HB.out | apply below_alloc | apply pw_below_drewN | apply below_drew1) | exact HB.out)) hb); clear HO134; clear HB; have HO134 := n0_; have HB := n1_; clear n0_ n1_; (try clear hb); (try clear hb2); (try clear hk); (try clear hi)) | ((with_reducible refine gate_dst (N := 50) rfl ?_); (try (refine gate_guard (by rfl) ?_; dsimp only)); refine Kd.R_lit Kd.string _ 9 ?hg (N := 50) ?hd (xs := ([(⟨#[97, 98]⟩ : ByteArray), (⟨#[99]⟩ : ByteArray)] : List ByteArray)) (inner := [.string (⟨#[97, 98]⟩ : ByteArray), .string (⟨#[99]⟩ : ByteArray)]) (ok := fun _ => True) (okp := fun _ => True) ?hr ?hp (fun _ hk => hk) trivial (Below.refl _ _) (Nat.le_refl _) (by simp) ?_; (case hd => rfl); (case hg => rfl); (case hr => first | (go_simp; done) | (go_simp; rfl)); (case hp => exact (Reps.one (show Kd.M Kd.string _ _ _ (⟨#[97, 98]⟩ : ByteArray) [.string (⟨#[97, 98]⟩ : ByteArray)] from rfl) (Reps.one (show Kd.M Kd.string _ _ _ (⟨#[99]⟩ : ByteArray) [.string (⟨#[99]⟩ : ByteArray)] from rfl) (Reps.none _ _)))); intro v138 w49 ho50 hb hg_ hnew_; clear hg_ hnew_; (first | rw [← Ny137.out] at ho50 | (simp only [Int.reduceToNat] at ho50; rw [← Ny137.out] at ho50)); have n0_ := Aside0.mk (Kd.R_elder' (by (with_reducible repeat (first | apply Kd.R_alloc | apply Kd.R_drewN | apply Kd.R_drew)); exact HO134.out) (Kd.R_base ho50) hb); have n1_ := Aside0.mk (Kd.R_lower (Kd.R_new' ho50 (Kd.R_lt (by (with_reducible repeat (first | apply Kd.R_alloc | apply Kd.R_drewN | apply Kd.R_drew)); exact HO134.out))) (below_size (by repeat (first | (with_reducible first | exact HB.out | apply below_alloc | apply pw_below_drewN | apply below_drew1) | exact HB.out)))); have n2_ := Aside0.mk (below_step (by repeat (first | (with_reducible first | exact HB.out | apply below_alloc | apply pw_below_drewN | apply below_drew1) | exact HB.out)) hb); clear HO134; clear HB; have HO134 := n0_; have HO139 := n1_; have HB := n2_; clear n0_ n1_ n2_; clear hb ho50; obtain ⟨Ao51, co51, eo51⟩ := Kd.R_slice HO139.out; subst eo51) | ((with_reducible refine gate_callee (f := 7) rfl ?_); refine goesL_ (some 51) rfl rfl Tryd.func7 (by kernel_rfl) rfl #[.slice Ao51 y137.length co51, .int .i64 1, .int .i64 3] rfl (by (try simp only [List.map_toArray, List.map_cons, List.map_nil]); first | done | rfl | (simp only [List.length_drop, List.length_take]; rfl)) ?_; (with_reducible refine (Given.WrFull.calls _ _ y137 1 3 t140 false _ ?side1 ?side2 ?sideG A15.out).mono ?_); (case sideG => exact Given.Glob.below HG.out (by repeat (first | (with_reducible first | exact HB.out | apply below_alloc | apply pw_below_drewN | apply below_drew1) | exact HB.out))); (case side1 => repeat (first | exact (Kd.R_reads' HO139.out).2.2 | (with_reducible refine Kd.C_alloc ?_ _) | (with_reducible refine Kd.C_drewN ?_ _) | (with_reducible refine Kd.C_drew ?_))); (case side2 => exact (Kd.R_reads' HO139.out).2.1); rintro e w52 ⟨rfl, hb⟩; refine ⟨_, rfl, ?_⟩; have n0_ := Aside0.mk (Kd.R_below (by (with_reducible repeat (first | apply Kd.R_alloc | apply Kd.R_drewN | apply Kd.R_drew)); exact HO134.out) hb); have n1_ := Aside0.mk (Kd.R_below (by (with_reducible repeat (first | apply Kd.R_alloc | apply Kd.R_drewN | apply Kd.R_drew)); exact HO139.out) hb); have n2_ := Aside0.mk (below_step (by repeat (first | (with_reducible first | exact HB.out | apply below_alloc | apply pw_below_drewN | apply below_drew1) | exact HB.out)) hb); clear HO134; clear HO139; clear HB; have HO134 := n0_; have HO139 := n1_; have HB := n2_; clear n0_ n1_ n2_; (try clear hb); (try clear hb2); (try clear hk); (try clear hi)))
            go_ret
            exact ⟨by first | rfl | (simp [errW_none, errW_some] <;> rfl) | (simp [*, errW_none, errW_some] <;> rfl), by repeat (first | (with_reducible first | exact HB.out | apply below_alloc | apply pw_below_drewN | apply below_drew1) | exact HB.out)⟩

/-- THE ONE PURE STATEMENT of laws_FnWrFullLarge: yours. -/
def laws_FnWrFullLarge.Pure : Prop := ∀ (a0 : Int) (a1 : Int) (a2 : Int) (a3 : Int) (l4 : List Int), (Lit.int .u32 a0).wf = true → (Lit.int .u32 a1).wf = true → (Lit.int .u32 a2).wf = true → (Lit.int .u8 a3).wf = true → l4.length ≤ maxLen → l4.length * 2 ≤ 140737488351232 → (∀ x ∈ l4, (Lit.int .u16 x).wf = true) → ∃ k, laws_FnWrFullLarge.f k a0 a1 a2 a3 l4 = some true
theorem laws_FnWrFullLarge.walk (P : laws_FnWrFullLarge.Pure) (a0 : Int) (a1 : Int) (a2 : Int) (a3 : Int) (a4 : Option Addr) (len4 cap4 : Nat) (z4 : List Int) (w : World) (hG : Given.Glob w) (w0 : (Lit.int .u32 a0).wf = true) (w1 : (Lit.int .u32 a1).wf = true) (w2 : (Lit.int .u32 a2).wf = true) (w3 : (Lit.int .u8 a3).wf = true) (w4 : (a4 = none ∧ len4 = 0 ∧ cap4 = 0 ∧ z4 = []) ∨ ∃ x, a4 = some x ∧ len4 ≤ cap4 ∧ cap4 ≤ maxLen ∧ z4.length = cap4 ∧ (∀ i, i < z4.length → w.cell? (x.add i) = some (.int .u16 (z4.getD i 0))) ∧ ∀ n ∈ z4, (Lit.int .u16 n).wf = true) (y4 : len4 * 2 ≤ 140737488351232) :
    Calls Tryd.prog 3 #[.int .u32 a0, .int .u32 a1, .int .u32 a2, .int .u8 a3, .slice a4 len4 cap4] w fun e w' => e = .returned (.bool true) ∧ Below w.heap.size w w' := by
  obtain ⟨l4, rfl, hr4, hm4, hw4, hc4⟩ := ReadsInt.ofRowC w4
  obtain ⟨k, h⟩ := P a0 a1 a2 a3 l4 w0 w1 w2 w3 hm4 y4 hw4
  refine (laws_FnWrFullLarge.calls k a0 a1 a2 a3 _ _ l4 true w hG (Kd.C_of_reads (d := (0 : Int)) (h1 := fun _ => rfl) hr4) hc4 h).mono ?_
  rintro e w' ⟨rfl, hd⟩
  exact ⟨rfl, hd⟩

end Go.Proofs.YtdooimdefmegaaaDoor.PWf

-- Written by a program of this session (wip/tools/myprint.py) for this claim.
import Derived.Test.YthkblpbabcibcaaPSgx0
import Derived.Test.YthkblpbabcibcaaPSgx4
import Derived.Test.YthkblpbabcibcaaPSgx6
namespace Go.Proofs.Ythkblpbabcibcaa.PSg
open Go.RowKit Go.Proofs.YthkblpbabcibcaaW.PrintWords Go.Proofs.YthkblpbabcibcaaW.PrintLast Go.Proofs.YthkblpbabcibcaaW.PrintMore
attribute [local go_sem] max2_int min2_int max_two min_two max_three min_three max_four min_four   -- for this text's walks alone
set_option linter.unusedVariables false
set_option linter.unusedSimpArgs false

/-! ### laws_FnSgWithin: function 8 -/
def laws_FnSgWithin.j0 : Nat → ByteArray → Int → Int → Bool → Option (Bool)
  | 0, _, _, _, _ => none
  | k + 1, x0, x1, x2, x35 => if x35 = true then (some true) else ((laws_sgRepeat.f k (⟨#[40]⟩ : ByteArray) (wrap64 (x2))).bind fun t168 => ((laws_sgRepeat.f k (⟨#[97]⟩ : ByteArray) (wrap64 (x1))).bind fun t169 => (if t168.size + t169.size ≤ 9223372036854775807 then (if (t168 ++ t169).size + x0.size ≤ 9223372036854775807 then ((laws_sgRepeat.f k (⟨#[41]⟩ : ByteArray) (wrap64 (x2))).bind fun t170 => (if ((t168 ++ t169) ++ x0).size + t170.size ≤ 9223372036854775807 then (if ((t168.size : Int) + (t169.size : Int) + (x0.size : Int) + (t170.size : Int)) > 255 then (some true) else ((spec_Complete.f k x0 (wrap64 (32 - (wrap64 (x1)))) (wrap64 (32 - (wrap64 (x2)))) 32).bind fun t171 => ((Given.SgParse.f (((t168 ++ t169) ++ x0) ++ t170)).bind fun bt172 => ((Given.SgBegin.f x0 (wrap64 (x1)) (wrap64 (x2)) 0).bind fun bt174 => ((Given.SgParse.f (⟨#[121]⟩ : ByteArray)).bind fun bt176 => (if (bt172.2 == (t171 == (x0.size : Int))) = true then (if (bt174.2 == (t171 == (x0.size : Int))) = true then (if bt174.2 = true then (if bt174.1.toList = ([] : List UInt8) then (some bt176.2) else (some false)) else (some bt176.2)) else (some false)) else (some false))))))) else (none))) else (none)) else (none))))
def laws_FnSgWithin.f (k : Nat) (a0 : ByteArray) (a1 : Int) (a2 : Int) : Option (Bool) := if (a0.size : Int) > 2147483647 then (some true) else (if (a0.size : Int) > 200 then (laws_FnSgWithin.j0 k a0 a1 a2 true) else ((spec_Single.f k a0).bind fun t167 => (if t167 = true then (if a1 > 40 then (laws_FnSgWithin.j0 k a0 a1 a2 true) else (laws_FnSgWithin.j0 k a0 a1 a2 (decide (a2 > 40)))) else (laws_FnSgWithin.j0 k a0 a1 a2 true))))
theorem laws_FnSgWithin.mono_l : ∀ k, (∀ y0 y1 y2 y3, LeO (laws_FnSgWithin.j0 k y0 y1 y2 y3) (laws_FnSgWithin.j0 (k + 1) y0 y1 y2 y3))
  | 0 => fun _ _ _ _ r h => by simp [laws_FnSgWithin.j0] at h
  | k + 1 => by
    have ih0 := laws_FnSgWithin.mono_l k
    · intro y0 y1 y2 y3
      unfold laws_FnSgWithin.j0
      repeat' first
      | (with_reducible exact ih0 _ _ _ _)
      | (with_reducible exact laws_sgRepeat.mono _ _ _)
      | (with_reducible exact spec_Complete.mono _ _ _ _ _)
      | (with_reducible exact spec_Single.mono _ _)
      | (with_reducible exact LeO.refl _)
      | (with_reducible exact LeO.none _)
      | (with_reducible refine LeO.ite ?_ ?_)
      | (with_reducible refine LeO.bind ?_ (fun _ => ?_))
      | exact ih0 _ _ _ _
      | exact laws_sgRepeat.mono _ _ _
      | exact spec_Complete.mono _ _ _ _ _
      | exact spec_Single.mono _ _
      | exact LeO.none _
      | refine LeO.ite ?_ ?_
      | refine LeO.bind ?_ (fun _ => ?_)
theorem laws_FnSgWithin.mono : ∀ a0 a1 a2 k, LeO (laws_FnSgWithin.f k a0 a1 a2) (laws_FnSgWithin.f (k + 1) a0 a1 a2) := by
  intro a0 a1 a2 k
  have ih0 := laws_FnSgWithin.mono_l k
  unfold laws_FnSgWithin.f
  repeat' first
      | (with_reducible exact ih0 _ _ _ _)
      | (with_reducible exact laws_sgRepeat.mono _ _ _)
      | (with_reducible exact spec_Complete.mono _ _ _ _ _)
      | (with_reducible exact spec_Single.mono _ _)
      | (with_reducible exact LeO.refl _)
      | (with_reducible exact LeO.none _)
      | (with_reducible refine LeO.ite ?_ ?_)
      | (with_reducible refine LeO.bind ?_ (fun _ => ?_))
      | exact ih0 _ _ _ _
      | exact laws_sgRepeat.mono _ _ _
      | exact spec_Complete.mono _ _ _ _ _
      | exact spec_Single.mono _ _
      | exact LeO.none _
      | refine LeO.ite ?_ ?_
      | refine LeO.bind ?_ (fun _ => ?_)
set_option maxHeartbeats 8000000 in
set_option maxRecDepth 100000 in
theorem laws_FnSgWithin.calls (k : Nat) (a0 : ByteArray) (a1 : Int) (a2 : Int) (r : Bool) (w : World) (h : laws_FnSgWithin.f k a0 a1 a2 = some r) :
    Calls Try.prog 8 #[.string a0, .int .u8 a1, .int .u8 a2] w fun e w' => e = .returned (.bool r) ∧ Below w.heap.size w w' := by
  have HB := Aside0.mk (Below.refl w.heap.size w)
  have H : (if (a0.size : Int) > 2147483647 then (some true) else (if (a0.size : Int) > 200 then (laws_FnSgWithin.j0 k a0 a1 a2 true) else ((spec_Single.f k a0).bind fun t167 => (if t167 = true then (if a1 > 40 then (laws_FnSgWithin.j0 k a0 a1 a2 true) else (laws_FnSgWithin.j0 k a0 a1 a2 (decide (a2 > 40)))) else (laws_FnSgWithin.j0 k a0 a1 a2 true))))) = some r := h
  clear h
  by_cases c4 : (a0.size : Int) > 2147483647
  · rw [if_pos c4] at H
    have c4b0 : decide (2147483647 < (a0.size : Int)) = true := decide_eq_true c4
    have c4b1 : decide (2147483647 < a0.size) = true := decide_eq_true (by omega)
    clear c4
    obtain rfl := Option.some.inj H
    go_enter Try.func8, Try.ntmps8
    go_wp2
    go_ret
    exact ⟨by first | rfl | (simp [errW_none, errW_some] <;> rfl) | (simp [*, errW_none, errW_some] <;> rfl), by repeat (first | (with_reducible first | exact HB.out | apply below_alloc | apply pw_below_drewN | apply below_drew1) | exact HB.out)⟩
  · rw [if_neg c4] at H
    have c4b0 : decide (2147483647 < (a0.size : Int)) = false := decide_eq_false c4
    have c4b1 : decide (2147483647 < a0.size) = false := decide_eq_false (by omega)
    clear c4
    have HC5 := Aside0.mk H
    clear H
    go_enter Try.func8, Try.ntmps8
    go_upto_region 3 with (fail)
    go_cut [35] (fun v35 wc => ∃ (kq : Nat) (x35_4 : Bool), v35 = .bool x35_4 ∧ Aside0 (laws_FnSgWithin.j0 kq a0 a1 a2 x35_4 = some r) ∧ Aside0 (kq ≤ k) ∧ Aside0 (Below w.heap.size w wc))
    case first =>
      have H := HC5.out
      clear HC5
      by_cases c6 : (a0.size : Int) > 200
      · rw [if_pos c6] at H
        have c6b0 : decide (200 < (a0.size : Int)) = true := decide_eq_true c6
        have c6b1 : decide (200 < a0.size) = true := decide_eq_true (by omega)
        clear c6
        (first | rw [c6b0] | (simp only [i64_w, i32_w]; rw [c6b0]) | skip)
        have H' := Aside0.mk H
        clear H
        go_wp2
        go_meet
        case rel => exact ⟨_, (true), (by first | rfl | (simp; done) | (simp [*]; done)), H', ⟨by first | omega | exact Nat.le_refl _⟩, ⟨by repeat (first | (with_reducible first | exact HB.out | apply below_alloc | apply pw_below_drewN | apply below_drew1) | exact HB.out)⟩⟩
      · rw [if_neg c6] at H
        have c6b0 : decide (200 < (a0.size : Int)) = false := decide_eq_false c6
        have c6b1 : decide (200 < a0.size) = false := decide_eq_false (by omega)
        clear c6
        (first | rw [c6b0] | (simp only [i64_w, i32_w]; rw [c6b0]) | skip)
        replace H := Option.bind_eq_some_iff.mp H
        obtain ⟨t167, A70, H⟩ := H
        replace H : (if t167 = true then (if a1 > 40 then (laws_FnSgWithin.j0 k a0 a1 a2 true) else (laws_FnSgWithin.j0 k a0 a1 a2 (decide (a2 > 40)))) else (laws_FnSgWithin.j0 k a0 a1 a2 true)) = some r := H
        have A7 := Aside0.mk A70
        clear A70
        by_cases c8 : t167 = true
        · subst c8
          have H1 : (if a1 > 40 then (laws_FnSgWithin.j0 k a0 a1 a2 true) else (laws_FnSgWithin.j0 k a0 a1 a2 (decide (a2 > 40)))) = some r := by rw [if_pos rfl] at H; exact H
          clear H
          have H := H1
          clear H1
          by_cases c9 : a1 > 40
          · rw [if_pos c9] at H
            have c9b0 : decide (40 < a1) = true := decide_eq_true c9
            clear c9
            have H' := Aside0.mk H
            clear H
            go_wp2_with (first | (go_at_call 18; (with_reducible refine (spec_Single.calls k a0 true _ A7.out).mono ?_); rintro e w10 ⟨rfl, hb⟩; have n0_ := Aside0.mk (below_step (by repeat (first | (with_reducible first | exact HB.out | apply below_alloc | apply pw_below_drewN | apply below_drew1) | exact HB.out)) hb); clear HB; have HB := n0_; clear n0_; (try clear hb); (try clear hb2); (try clear hk); (try clear hi)))
            go_meet
            case rel => exact ⟨_, (true), (by first | rfl | (simp; done) | (simp [*]; done)), H', ⟨by first | omega | exact Nat.le_refl _⟩, ⟨by repeat (first | (with_reducible first | exact HB.out | apply below_alloc | apply pw_below_drewN | apply below_drew1) | exact HB.out)⟩⟩
          · rw [if_neg c9] at H
            have c9b0 : decide (40 < a1) = false := decide_eq_false c9
            clear c9
            have H' := Aside0.mk H
            clear H
            go_wp2_with (first | (go_at_call 18; (with_reducible refine (spec_Single.calls k a0 true _ A7.out).mono ?_); rintro e w11 ⟨rfl, hb⟩; have n0_ := Aside0.mk (below_step (by repeat (first | (with_reducible first | exact HB.out | apply below_alloc | apply pw_below_drewN | apply below_drew1) | exact HB.out)) hb); clear HB; have HB := n0_; clear n0_; (try clear hb); (try clear hb2); (try clear hk); (try clear hi)))
            go_meet
            case rel => exact ⟨_, (decide (a2 > 40)), (by first | rfl | (simp; done) | (simp [*]; done)), H', ⟨by first | omega | exact Nat.le_refl _⟩, ⟨by repeat (first | (with_reducible first | exact HB.out | apply below_alloc | apply pw_below_drewN | apply below_drew1) | exact HB.out)⟩⟩
        · replace c8 := Bool.eq_false_iff.mpr c8
          subst c8
          have H1 : (laws_FnSgWithin.j0 k a0 a1 a2 true) = some r := by rw [if_neg (show ¬ (false = true) by decide)] at H; exact H
          clear H
          have H := H1
          clear H1
          have H' := Aside0.mk H
          clear H
          go_wp2_with (first | (go_at_call 18; (with_reducible refine (spec_Single.calls k a0 false _ A7.out).mono ?_); rintro e w12 ⟨rfl, hb⟩; have n0_ := Aside0.mk (below_step (by repeat (first | (with_reducible first | exact HB.out | apply below_alloc | apply pw_below_drewN | apply below_drew1) | exact HB.out)) hb); clear HB; have HB := n0_; clear n0_; (try clear hb); (try clear hb2); (try clear hk); (try clear hi)))
          go_meet
          case rel => exact ⟨_, (true), (by first | rfl | (simp; done) | (simp [*]; done)), H', ⟨by first | omega | exact Nat.le_refl _⟩, ⟨by repeat (first | (with_reducible first | exact HB.out | apply below_alloc | apply pw_below_drewN | apply below_drew1) | exact HB.out)⟩⟩
    case rest =>
      clear HC5
      try clear p2
      try clear c4
      try clear c4b0
      try clear c4b1
      try clear c6
      try clear c6b0
      try clear c6b1
      try clear c8
      try clear c9
      try clear c9b0
      obtain ⟨kq, x35_4, rfl, HA, HJ4, HB⟩ := hcut
      cases kq with
      | zero => exact absurd HA.out (by simp [laws_FnSgWithin.j0])
      | succ kj4 =>
        have H := HA.out
        clear HA
        simp only [laws_FnSgWithin.j0] at H
        by_cases c13 : x35_4 = true
        · subst c13
          have H1 : (some true) = some r := by rw [if_pos rfl] at H; exact H
          clear H
          have H := H1
          clear H1
          obtain rfl := Option.some.inj H
          go_wp2
          go_ret
          exact ⟨by first | rfl | (simp [errW_none, errW_some] <;> rfl) | (simp [*, errW_none, errW_some] <;> rfl), by repeat (first | (with_reducible first | exact HB.out | apply below_alloc | apply pw_below_drewN | apply below_drew1) | exact HB.out)⟩
        · replace c13 := Bool.eq_false_iff.mpr c13
          subst c13
          have H1 : ((laws_sgRepeat.f kj4 (⟨#[40]⟩ : ByteArray) (wrap64 (a2))).bind fun t168 => ((laws_sgRepeat.f kj4 (⟨#[97]⟩ : ByteArray) (wrap64 (a1))).bind fun t169 => (if t168.size + t169.size ≤ 9223372036854775807 then (if (t168 ++ t169).size + a0.size ≤ 9223372036854775807 then ((laws_sgRepeat.f kj4 (⟨#[41]⟩ : ByteArray) (wrap64 (a2))).bind fun t170 => (if ((t168 ++ t169) ++ a0).size + t170.size ≤ 9223372036854775807 then (if ((t168.size : Int) + (t169.size : Int) + (a0.size : Int) + (t170.size : Int)) > 255 then (some true) else ((spec_Complete.f kj4 a0 (wrap64 (32 - (wrap64 (a1)))) (wrap64 (32 - (wrap64 (a2)))) 32).bind fun t171 => ((Given.SgParse.f (((t168 ++ t169) ++ a0) ++ t170)).bind fun bt172 => ((Given.SgBegin.f a0 (wrap64 (a1)) (wrap64 (a2)) 0).bind fun bt174 => ((Given.SgParse.f (⟨#[121]⟩ : ByteArray)).bind fun bt176 => (if (bt172.2 == (t171 == (a0.size : Int))) = true then (if (bt174.2 == (t171 == (a0.size : Int))) = true then (if bt174.2 = true then (if bt174.1.toList = ([] : List UInt8) then (some bt176.2) else (some false)) else (some bt176.2)) else (some false)) else (some false))))))) else (none))) else (none)) else (none)))) = some r := by rw [if_neg (show ¬ (false = true) by decide)] at H; exact H
          clear H
          have H := H1
          clear H1
          replace H := Option.bind_eq_some_iff.mp H
          obtain ⟨t168, A140, H⟩ := H
          replace H : ((laws_sgRepeat.f kj4 (⟨#[97]⟩ : ByteArray) (wrap64 (a1))).bind fun t169 => (if t168.size + t169.size ≤ 9223372036854775807 then (if (t168 ++ t169).size + a0.size ≤ 9223372036854775807 then ((laws_sgRepeat.f kj4 (⟨#[41]⟩ : ByteArray) (wrap64 (a2))).bind fun t170 => (if ((t168 ++ t169) ++ a0).size + t170.size ≤ 9223372036854775807 then (if ((t168.size : Int) + (t169.size : Int) + (a0.size : Int) + (t170.size : Int)) > 255 then (some true) else ((spec_Complete.f kj4 a0 (wrap64 (32 - (wrap64 (a1)))) (wrap64 (32 - (wrap64 (a2)))) 32).bind fun t171 => ((Given.SgParse.f (((t168 ++ t169) ++ a0) ++ t170)).bind fun bt172 => ((Given.SgBegin.f a0 (wrap64 (a1)) (wrap64 (a2)) 0).bind fun bt174 => ((Given.SgParse.f (⟨#[121]⟩ : ByteArray)).bind fun bt176 => (if (bt172.2 == (t171 == (a0.size : Int))) = true then (if (bt174.2 == (t171 == (a0.size : Int))) = true then (if bt174.2 = true then (if bt174.1.toList = ([] : List UInt8) then (some bt176.2) else (some false)) else (some bt176.2)) else (some false)) else (some false))))))) else (none))) else (none)) else (none))) = some r := H
          have A14 := Aside0.mk A140
          clear A140
          replace H := Option.bind_eq_some_iff.mp H
          obtain ⟨t169, A150, H⟩ := H
          replace H : (if t168.size + t169.size ≤ 9223372036854775807 then (if (t168 ++ t169).size + a0.size ≤ 9223372036854775807 then ((laws_sgRepeat.f kj4 (⟨#[41]⟩ : ByteArray) (wrap64 (a2))).bind fun t170 => (if ((t168 ++ t169) ++ a0).size + t170.size ≤ 9223372036854775807 then (if ((t168.size : Int) + (t169.size : Int) + (a0.size : Int) + (t170.size : Int)) > 255 then (some true) else ((spec_Complete.f kj4 a0 (wrap64 (32 - (wrap64 (a1)))) (wrap64 (32 - (wrap64 (a2)))) 32).bind fun t171 => ((Given.SgParse.f (((t168 ++ t169) ++ a0) ++ t170)).bind fun bt172 => ((Given.SgBegin.f a0 (wrap64 (a1)) (wrap64 (a2)) 0).bind fun bt174 => ((Given.SgParse.f (⟨#[121]⟩ : ByteArray)).bind fun bt176 => (if (bt172.2 == (t171 == (a0.size : Int))) = true then (if (bt174.2 == (t171 == (a0.size : Int))) = true then (if bt174.2 = true then (if bt174.1.toList = ([] : List UInt8) then (some bt176.2) else (some false)) else (some bt176.2)) else (some false)) else (some false))))))) else (none))) else (none)) else (none)) = some r := H
          have A15 := Aside0.mk A150
          clear A150
          by_cases c16 : t168.size + t169.size ≤ 9223372036854775807
          · rw [if_pos c16] at H
            have c16b0 := eq_true c16
            have c16b1 : decide (t168.size + t169.size ≤ 9223372036854775807) = true := decide_eq_true c16
            try have c16b2 : (9223372036854775807 < t168.size + t169.size) = False := eq_false (Nat.not_lt.2 c16)
            by_cases c17 : (t168 ++ t169).size + a0.size ≤ 9223372036854775807
            · rw [if_pos c17] at H
              have c17b0 := eq_true c17
              have c17b1 : decide ((t168 ++ t169).size + a0.size ≤ 9223372036854775807) = true := decide_eq_true c17
              try have c17b2 : (9223372036854775807 < (t168 ++ t169).size + a0.size) = False := eq_false (Nat.not_lt.2 c17)
              replace H := Option.bind_eq_some_iff.mp H
              obtain ⟨t170, A180, H⟩ := H
              replace H : (if ((t168 ++ t169) ++ a0).size + t170.size ≤ 9223372036854775807 then (if ((t168.size : Int) + (t169.size : Int) + (a0.size : Int) + (t170.size : Int)) > 255 then (some true) else ((spec_Complete.f kj4 a0 (wrap64 (32 - (wrap64 (a1)))) (wrap64 (32 - (wrap64 (a2)))) 32).bind fun t171 => ((Given.SgParse.f (((t168 ++ t169) ++ a0) ++ t170)).bind fun bt172 => ((Given.SgBegin.f a0 (wrap64 (a1)) (wrap64 (a2)) 0).bind fun bt174 => ((Given.SgParse.f (⟨#[121]⟩ : ByteArray)).bind fun bt176 => (if (bt172.2 == (t171 == (a0.size : Int))) = true then (if (bt174.2 == (t171 == (a0.size : Int))) = true then (if bt174.2 = true then (if bt174.1.toList = ([] : List UInt8) then (some bt176.2) else (some false)) else (some bt176.2)) else (some false)) else (some false))))))) else (none)) = some r := H
              have A18 := Aside0.mk A180
              clear A180
              by_cases c19 : ((t168 ++ t169) ++ a0).size + t170.size ≤ 9223372036854775807
              · rw [if_pos c19] at H
                have c19flat : (9223372036854775807 < t168.size + t169.size + a0.size + t170.size) = False := eq_false (by have z_ := c19; simp only [ByteArray.size_append] at z_; omega)
                have c19b0 := eq_true c19
                have c19b1 : decide (((t168 ++ t169) ++ a0).size + t170.size ≤ 9223372036854775807) = true := decide_eq_true c19
                try have c19b2 : (9223372036854775807 < ((t168 ++ t169) ++ a0).size + t170.size) = False := eq_false (Nat.not_lt.2 c19)
                by_cases c20 : ((t168.size : Int) + (t169.size : Int) + (a0.size : Int) + (t170.size : Int)) > 255
                · rw [if_pos c20] at H
                  have c20b0 : decide (255 < ((t168.size : Int) + (t169.size : Int) + (a0.size : Int) + (t170.size : Int))) = true := decide_eq_true c20
                  clear c20
                  obtain rfl := Option.some.inj H
                  go_wp2_with (first | ((with_reducible refine gate_callee (f := 19) rfl ?_); refine goesL_ (some 41) rfl rfl Try.func19 (by kernel_rfl) rfl #[.string (⟨#[40]⟩ : ByteArray), .int .i64 (wrap64 (a2))] rfl (by (try simp only [List.map_toArray, List.map_cons, List.map_nil]); first | done | rfl | (simp only [List.length_drop, List.length_take]; rfl)) ?_; (with_reducible refine (laws_sgRepeat.calls kj4 (⟨#[40]⟩ : ByteArray) (wrap64 (a2)) t168 _ A14.out).mono ?_); rintro e w' ⟨rfl, ⟨nd, rfl⟩⟩; refine ⟨_, rfl, ?_⟩) | ((with_reducible refine gate_callee (f := 19) rfl ?_); refine goesL_ (some 43) rfl rfl Try.func19 (by kernel_rfl) rfl #[.string (⟨#[97]⟩ : ByteArray), .int .i64 (wrap64 (a1))] rfl (by (try simp only [List.map_toArray, List.map_cons, List.map_nil]); first | done | rfl | (simp only [List.length_drop, List.length_take]; rfl)) ?_; (with_reducible refine (laws_sgRepeat.calls kj4 (⟨#[97]⟩ : ByteArray) (wrap64 (a1)) t169 _ A15.out).mono ?_); rintro e w' ⟨rfl, ⟨nd, rfl⟩⟩; refine ⟨_, rfl, ?_⟩) | ((with_reducible refine gate_callee (f := 19) rfl ?_); refine goesL_ (some 48) rfl rfl Try.func19 (by kernel_rfl) rfl #[.string (⟨#[41]⟩ : ByteArray), .int .i64 (wrap64 (a2))] rfl (by (try simp only [List.map_toArray, List.map_cons, List.map_nil]); first | done | rfl | (simp only [List.length_drop, List.length_take]; rfl)) ?_; (with_reducible refine (laws_sgRepeat.calls kj4 (⟨#[41]⟩ : ByteArray) (wrap64 (a2)) t170 _ A18.out).mono ?_); rintro e w' ⟨rfl, ⟨nd, rfl⟩⟩; refine ⟨_, rfl, ?_⟩))
                  go_ret
                  exact ⟨by first | rfl | (simp [errW_none, errW_some] <;> rfl) | (simp [*, errW_none, errW_some] <;> rfl), by repeat (first | (with_reducible first | exact HB.out | apply below_alloc | apply pw_below_drewN | apply below_drew1) | exact HB.out)⟩
                · rw [if_neg c20] at H
                  have c20b0 : decide (255 < ((t168.size : Int) + (t169.size : Int) + (a0.size : Int) + (t170.size : Int))) = false := decide_eq_false c20
                  clear c20
                  replace H := Option.bind_eq_some_iff.mp H
                  obtain ⟨t171, A210, H⟩ := H
                  replace H : ((Given.SgParse.f (((t168 ++ t169) ++ a0) ++ t170)).bind fun bt172 => ((Given.SgBegin.f a0 (wrap64 (a1)) (wrap64 (a2)) 0).bind fun bt174 => ((Given.SgParse.f (⟨#[121]⟩ : ByteArray)).bind fun bt176 => (if (bt172.2 == (t171 == (a0.size : Int))) = true then (if (bt174.2 == (t171 == (a0.size : Int))) = true then (if bt174.2 = true then (if bt174.1.toList = ([] : List UInt8) then (some bt176.2) else (some false)) else (some bt176.2)) else (some false)) else (some false))))) = some r := H
                  have A21 := Aside0.mk A210
                  clear A210
                  replace H := Option.bind_eq_some_iff.mp H
                  obtain ⟨⟨t172, t173⟩, A220, H⟩ := H
                  replace H : ((Given.SgBegin.f a0 (wrap64 (a1)) (wrap64 (a2)) 0).bind fun bt174 => ((Given.SgParse.f (⟨#[121]⟩ : ByteArray)).bind fun bt176 => (if (t173 == (t171 == (a0.size : Int))) = true then (if (bt174.2 == (t171 == (a0.size : Int))) = true then (if bt174.2 = true then (if bt174.1.toList = ([] : List UInt8) then (some bt176.2) else (some false)) else (some bt176.2)) else (some false)) else (some false)))) = some r := H
                  have A22 := Aside0.mk A220
                  clear A220
                  replace H := Option.bind_eq_some_iff.mp H
                  obtain ⟨⟨t174, t175⟩, A230, H⟩ := H
                  replace H : ((Given.SgParse.f (⟨#[121]⟩ : ByteArray)).bind fun bt176 => (if (t173 == (t171 == (a0.size : Int))) = true then (if (t175 == (t171 == (a0.size : Int))) = true then (if t175 = true then (if t174.toList = ([] : List UInt8) then (some bt176.2) else (some false)) else (some bt176.2)) else (some false)) else (some false))) = some r := H
                  have A23 := Aside0.mk A230
                  clear A230
                  replace H := Option.bind_eq_some_iff.mp H
                  obtain ⟨⟨t176, t177⟩, A240, H⟩ := H
                  replace H : (if (t173 == (t171 == (a0.size : Int))) = true then (if (t175 == (t171 == (a0.size : Int))) = true then (if t175 = true then (if t174.toList = ([] : List UInt8) then (some t177) else (some false)) else (some t177)) else (some false)) else (some false)) = some r := H
                  have A24 := Aside0.mk A240
                  clear A240
                  by_cases c25 : (t173 == (t171 == (a0.size : Int))) = true
                  · rw [if_pos c25] at H
                    have c25b0 : (t173 == (t171 == (a0.size : Int))) = true := c25
                    (try (have c25b1 : decide (t173 = (t171 == (a0.size : Int))) = true := by simpa using c25))
                    (try (have c25b2 : (t173 == (t171 == (a0.size : Int))) = true := by simpa using c25))
                    clear c25
                    by_cases c26 : (t175 == (t171 == (a0.size : Int))) = true
                    · rw [if_pos c26] at H
                      have c26b0 : (t175 == (t171 == (a0.size : Int))) = true := c26
                      (try (have c26b1 : decide (t175 = (t171 == (a0.size : Int))) = true := by simpa using c26))
                      (try (have c26b2 : (t175 == (t171 == (a0.size : Int))) = true := by simpa using c26))
                      clear c26
                      by_cases c27 : t175 = true
                      · subst c27
                        have H1 : (if t174.toList = ([] : List UInt8) then (some t177) else (some false)) = some r := by rw [if_pos rfl] at H; exact H
                        clear H
                        have H := H1
                        clear H1
                        by_cases c28 : t174.toList = ([] : List UInt8)
                        · rw [if_pos c28] at H
                          have c28b0 : (t174.toList == ([] : List UInt8)) = true := beq_iff_eq.mpr c28
                          have c28b1 : (t174.toList != ([] : List UInt8)) = false := bne_eq_false_iff_eq.mpr c28
                          clear c28
                          obtain rfl := Option.some.inj H
                          go_wp2_with (first | ((with_reducible refine gate_callee (f := 19) rfl ?_); refine goesL_ (some 41) rfl rfl Try.func19 (by kernel_rfl) rfl #[.string (⟨#[40]⟩ : ByteArray), .int .i64 (wrap64 (a2))] rfl (by (try simp only [List.map_toArray, List.map_cons, List.map_nil]); first | done | rfl | (simp only [List.length_drop, List.length_take]; rfl)) ?_; (with_reducible refine (laws_sgRepeat.calls kj4 (⟨#[40]⟩ : ByteArray) (wrap64 (a2)) t168 _ A14.out).mono ?_); rintro e w' ⟨rfl, ⟨nd, rfl⟩⟩; refine ⟨_, rfl, ?_⟩) | ((with_reducible refine gate_callee (f := 19) rfl ?_); refine goesL_ (some 43) rfl rfl Try.func19 (by kernel_rfl) rfl #[.string (⟨#[97]⟩ : ByteArray), .int .i64 (wrap64 (a1))] rfl (by (try simp only [List.map_toArray, List.map_cons, List.map_nil]); first | done | rfl | (simp only [List.length_drop, List.length_take]; rfl)) ?_; (with_reducible refine (laws_sgRepeat.calls kj4 (⟨#[97]⟩ : ByteArray) (wrap64 (a1)) t169 _ A15.out).mono ?_); rintro e w' ⟨rfl, ⟨nd, rfl⟩⟩; refine ⟨_, rfl, ?_⟩) | ((with_reducible refine gate_callee (f := 19) rfl ?_); refine goesL_ (some 48) rfl rfl Try.func19 (by kernel_rfl) rfl #[.string (⟨#[41]⟩ : ByteArray), .int .i64 (wrap64 (a2))] rfl (by (try simp only [List.map_toArray, List.map_cons, List.map_nil]); first | done | rfl | (simp only [List.length_drop, List.length_take]; rfl)) ?_; (with_reducible refine (laws_sgRepeat.calls kj4 (⟨#[41]⟩ : ByteArray) (wrap64 (a2)) t170 _ A18.out).mono ?_); rintro e w' ⟨rfl, ⟨nd, rfl⟩⟩; refine ⟨_, rfl, ?_⟩) | ((with_reducible refine gate_callee (f := 10) rfl ?_); refine goesL_ (some 58) rfl rfl Try.func10 (by kernel_rfl) rfl #[.string a0, .int .i64 (wrap64 (32 - (wrap64 (a1)))), .int .i64 (wrap64 (32 - (wrap64 (a2)))), .int .i64 32] rfl (by (try simp only [List.map_toArray, List.map_cons, List.map_nil]); first | done | rfl | (simp only [List.length_drop, List.length_take]; rfl)) ?_; (with_reducible refine (spec_Complete.calls kj4 a0 (wrap64 (32 - (wrap64 (a1)))) (wrap64 (32 - (wrap64 (a2)))) 32 t171 _ A21.out).mono ?_); rintro e w' ⟨rfl, ⟨nd, rfl⟩⟩; refine ⟨_, rfl, ?_⟩) | ((with_reducible refine gate_callee (f := 14) rfl ?_); refine goesL_ (some 64) rfl rfl Try.func14 (by kernel_rfl) rfl #[.string (((t168 ++ t169) ++ a0) ++ t170)] rfl (by (try simp only [List.map_toArray, List.map_cons, List.map_nil]); first | done | rfl | (simp only [List.length_drop, List.length_take]; rfl)) ?_; (with_reducible refine (Given.SgParse.calls (((t168 ++ t169) ++ a0) ++ t170) t172 t173 _ A22.out).mono ?_); rintro e w29 ⟨rfl, hb⟩; refine ⟨_, rfl, ?_⟩; have n0_ := Aside0.mk (below_step (by repeat (first | (with_reducible first | exact HB.out | apply below_alloc | apply pw_below_drewN | apply below_drew1) | exact HB.out)) hb); clear HB; have HB := n0_; clear n0_; (try clear hb); (try clear hb2); (try clear hk); (try clear hi)) | ((with_reducible refine gate_callee (f := 11) rfl ?_); refine goesL_ (some 71) rfl rfl Try.func11 (by kernel_rfl) rfl #[.string a0, .int .i64 (wrap64 (a1)), .int .i64 (wrap64 (a2)), .int .i64 0] rfl (by (try simp only [List.map_toArray, List.map_cons, List.map_nil]); first | done | rfl | (simp only [List.length_drop, List.length_take]; rfl)) ?_; (with_reducible refine (Given.SgBegin.calls a0 (wrap64 (a1)) (wrap64 (a2)) 0 t174 true _ A23.out).mono ?_); rintro e w30 ⟨rfl, hb⟩; refine ⟨_, rfl, ?_⟩; have n0_ := Aside0.mk (below_step (by repeat (first | (with_reducible first | exact HB.out | apply below_alloc | apply pw_below_drewN | apply below_drew1) | exact HB.out)) hb); clear HB; have HB := n0_; clear n0_; (try clear hb); (try clear hb2); (try clear hk); (try clear hi)) | ((with_reducible refine gate_callee (f := 14) rfl ?_); refine goesL_ (some 75) rfl rfl Try.func14 (by kernel_rfl) rfl #[.string (⟨#[121]⟩ : ByteArray)] rfl (by (try simp only [List.map_toArray, List.map_cons, List.map_nil]); first | done | rfl | (simp only [List.length_drop, List.length_take]; rfl)) ?_; (with_reducible refine (Given.SgParse.calls (⟨#[121]⟩ : ByteArray) t176 t177 _ A24.out).mono ?_); rintro e w31 ⟨rfl, hb⟩; refine ⟨_, rfl, ?_⟩; have n0_ := Aside0.mk (below_step (by repeat (first | (with_reducible first | exact HB.out | apply below_alloc | apply pw_below_drewN | apply below_drew1) | exact HB.out)) hb); clear HB; have HB := n0_; clear n0_; (try clear hb); (try clear hb2); (try clear hk); (try clear hi)))
                          go_ret
                          exact ⟨by first | rfl | (simp [errW_none, errW_some] <;> rfl) | (simp [*, errW_none, errW_some] <;> rfl), by repeat (first | (with_reducible first | exact HB.out | apply below_alloc | apply pw_below_drewN | apply below_drew1) | exact HB.out)⟩
                        · rw [if_neg c28] at H
                          have c28b0 : (t174.toList == ([] : List UInt8)) = false := beq_eq_false_iff_ne.mpr c28
                          have c28b1 : (t174.toList != ([] : List UInt8)) = true := bne_iff_ne.mpr c28
                          obtain rfl := Option.some.inj H
                          go_wp2_with (first | ((with_reducible refine gate_callee (f := 19) rfl ?_); refine goesL_ (some 41) rfl rfl Try.func19 (by kernel_rfl) rfl #[.string (⟨#[40]⟩ : ByteArray), .int .i64 (wrap64 (a2))] rfl (by (try simp only [List.map_toArray, List.map_cons, List.map_nil]); first | done | rfl | (simp only [List.length_drop, List.length_take]; rfl)) ?_; (with_reducible refine (laws_sgRepeat.calls kj4 (⟨#[40]⟩ : ByteArray) (wrap64 (a2)) t168 _ A14.out).mono ?_); rintro e w' ⟨rfl, ⟨nd, rfl⟩⟩; refine ⟨_, rfl, ?_⟩) | ((with_reducible refine gate_callee (f := 19) rfl ?_); refine goesL_ (some 43) rfl rfl Try.func19 (by kernel_rfl) rfl #[.string (⟨#[97]⟩ : ByteArray), .int .i64 (wrap64 (a1))] rfl (by (try simp only [List.map_toArray, List.map_cons, List.map_nil]); first | done | rfl | (simp only [List.length_drop, List.length_take]; rfl)) ?_; (with_reducible refine (laws_sgRepeat.calls kj4 (⟨#[97]⟩ : ByteArray) (wrap64 (a1)) t169 _ A15.out).mono ?_); rintro e w' ⟨rfl, ⟨nd, rfl⟩⟩; refine ⟨_, rfl, ?_⟩) | ((with_reducible refine gate_callee (f := 19) rfl ?_); refine goesL_ (some 48) rfl rfl Try.func19 (by kernel_rfl) rfl #[.string (⟨#[41]⟩ : ByteArray), .int .i64 (wrap64 (a2))] rfl (by (try simp only [List.map_toArray, List.map_cons, List.map_nil]); first | done | rfl | (simp only [List.length_drop, List.length_take]; rfl)) ?_; (with_reducible refine (laws_sgRepeat.calls kj4 (⟨#[41]⟩ : ByteArray) (wrap64 (a2)) t170 _ A18.out).mono ?_); rintro e w' ⟨rfl, ⟨nd, rfl⟩⟩; refine ⟨_, rfl, ?_⟩) | ((with_reducible refine gate_callee (f := 10) rfl ?_); refine goesL_ (some 58) rfl rfl Try.func10 (by kernel_rfl) rfl #[.string a0, .int .i64 (wrap64 (32 - (wrap64 (a1)))), .int .i64 (wrap64 (32 - (wrap64 (a2)))), .int .i64 32] rfl (by (try simp only [List.map_toArray, List.map_cons, List.map_nil]); first | done | rfl | (simp only [List.length_drop, List.length_take]; rfl)) ?_; (with_reducible refine (spec_Complete.calls kj4 a0 (wrap64 (32 - (wrap64 (a1)))) (wrap64 (32 - (wrap64 (a2)))) 32 t171 _ A21.out).mono ?_); rintro e w' ⟨rfl, ⟨nd, rfl⟩⟩; refine ⟨_, rfl, ?_⟩) | ((with_reducible refine gate_callee (f := 14) rfl ?_); refine goesL_ (some 64) rfl rfl Try.func14 (by kernel_rfl) rfl #[.string (((t168 ++ t169) ++ a0) ++ t170)] rfl (by (try simp only [List.map_toArray, List.map_cons, List.map_nil]); first | done | rfl | (simp only [List.length_drop, List.length_take]; rfl)) ?_; (with_reducible refine (Given.SgParse.calls (((t168 ++ t169) ++ a0) ++ t170) t172 t173 _ A22.out).mono ?_); rintro e w32 ⟨rfl, hb⟩; refine ⟨_, rfl, ?_⟩; have n0_ := Aside0.mk (below_step (by repeat (first | (with_reducible first | exact HB.out | apply below_alloc | apply pw_below_drewN | apply below_drew1) | exact HB.out)) hb); clear HB; have HB := n0_; clear n0_; (try clear hb); (try clear hb2); (try clear hk); (try clear hi)) | ((with_reducible refine gate_callee (f := 11) rfl ?_); refine goesL_ (some 71) rfl rfl Try.func11 (by kernel_rfl) rfl #[.string a0, .int .i64 (wrap64 (a1)), .int .i64 (wrap64 (a2)), .int .i64 0] rfl (by (try simp only [List.map_toArray, List.map_cons, List.map_nil]); first | done | rfl | (simp only [List.length_drop, List.length_take]; rfl)) ?_; (with_reducible refine (Given.SgBegin.calls a0 (wrap64 (a1)) (wrap64 (a2)) 0 t174 true _ A23.out).mono ?_); rintro e w33 ⟨rfl, hb⟩; refine ⟨_, rfl, ?_⟩; have n0_ := Aside0.mk (below_step (by repeat (first | (with_reducible first | exact HB.out | apply below_alloc | apply pw_below_drewN | apply below_drew1) | exact HB.out)) hb); clear HB; have HB := n0_; clear n0_; (try clear hb); (try clear hb2); (try clear hk); (try clear hi)) | ((with_reducible refine gate_callee (f := 14) rfl ?_); refine goesL_ (some 75) rfl rfl Try.func14 (by kernel_rfl) rfl #[.string (⟨#[121]⟩ : ByteArray)] rfl (by (try simp only [List.map_toArray, List.map_cons, List.map_nil]); first | done | rfl | (simp only [List.length_drop, List.length_take]; rfl)) ?_; (with_reducible refine (Given.SgParse.calls (⟨#[121]⟩ : ByteArray) t176 t177 _ A24.out).mono ?_); rintro e w34 ⟨rfl, hb⟩; refine ⟨_, rfl, ?_⟩; have n0_ := Aside0.mk (below_step (by repeat (first | (with_reducible first | exact HB.out | apply below_alloc | apply pw_below_drewN | apply below_drew1) | exact HB.out)) hb); clear HB; have HB := n0_; clear n0_; (try clear hb); (try clear hb2); (try clear hk); (try clear hi)))
                          go_ret
                          exact ⟨by first | rfl | (simp [errW_none, errW_some] <;> rfl) | (simp [*, errW_none, errW_some] <;> rfl), by repeat (first | (with_reducible first | exact HB.out | apply below_alloc | apply pw_below_drewN | apply below_drew1) | exact HB.out)⟩
                      · replace c27 := Bool.eq_false_iff.mpr c27
                        subst c27
                        have H1 : (some t177) = some r := by rw [if_neg (show ¬ (false = true) by decide)] at H; exact H
                        clear H
                        have H := H1
                        clear H1
                        obtain rfl := Option.some.inj H
                        go_wp2_with (first | ((with_reducible refine gate_callee (f := 19) rfl ?_); refine goesL_ (some 41) rfl rfl Try.func19 (by kernel_rfl) rfl #[.string (⟨#[40]⟩ : ByteArray), .int .i64 (wrap64 (a2))] rfl (by (try simp only [List.map_toArray, List.map_cons, List.map_nil]); first | done | rfl | (simp only [List.length_drop, List.length_take]; rfl)) ?_; (with_reducible refine (laws_sgRepeat.calls kj4 (⟨#[40]⟩ : ByteArray) (wrap64 (a2)) t168 _ A14.out).mono ?_); rintro e w' ⟨rfl, ⟨nd, rfl⟩⟩; refine ⟨_, rfl, ?_⟩) | ((with_reducible refine gate_callee (f := 19) rfl ?_); refine goesL_ (some 43) rfl rfl Try.func19 (by kernel_rfl) rfl #[.string (⟨#[97]⟩ : ByteArray), .int .i64 (wrap64 (a1))] rfl (by (try simp only [List.map_toArray, List.map_cons, List.map_nil]); first | done | rfl | (simp only [List.length_drop, List.length_take]; rfl)) ?_; (with_reducible refine (laws_sgRepeat.calls kj4 (⟨#[97]⟩ : ByteArray) (wrap64 (a1)) t169 _ A15.out).mono ?_); rintro e w' ⟨rfl, ⟨nd, rfl⟩⟩; refine ⟨_, rfl, ?_⟩) | ((with_reducible refine gate_callee (f := 19) rfl ?_); refine goesL_ (some 48) rfl rfl Try.func19 (by kernel_rfl) rfl #[.string (⟨#[41]⟩ : ByteArray), .int .i64 (wrap64 (a2))] rfl (by (try simp only [List.map_toArray, List.map_cons, List.map_nil]); first | done | rfl | (simp only [List.length_drop, List.length_take]; rfl)) ?_; (with_reducible refine (laws_sgRepeat.calls kj4 (⟨#[41]⟩ : ByteArray) (wrap64 (a2)) t170 _ A18.out).mono ?_); rintro e w' ⟨rfl, ⟨nd, rfl⟩⟩; refine ⟨_, rfl, ?_⟩) | ((with_reducible refine gate_callee (f := 10) rfl ?_); refine goesL_ (some 58) rfl rfl Try.func10 (by kernel_rfl) rfl #[.string a0, .int .i64 (wrap64 (32 - (wrap64 (a1)))), .int .i64 (wrap64 (32 - (wrap64 (a2)))), .int .i64 32] rfl (by (try simp only [List.map_toArray, List.map_cons, List.map_nil]); first | done | rfl | (simp only [List.length_drop, List.length_take]; rfl)) ?_; (with_reducible refine (spec_Complete.calls kj4 a0 (wrap64 (32 - (wrap64 (a1)))) (wrap64 (32 - (wrap64 (a2)))) 32 t171 _ A21.out).mono ?_); rintro e w' ⟨rfl, ⟨nd, rfl⟩⟩; refine ⟨_, rfl, ?_⟩) | ((with_reducible refine gate_callee (f := 14) rfl ?_); refine goesL_ (some 64) rfl rfl Try.func14 (by kernel_rfl) rfl #[.string (((t168 ++ t169) ++ a0) ++ t170)] rfl (by (try simp only [List.map_toArray, List.map_cons, List.map_nil]); first | done | rfl | (simp only [List.length_drop, List.length_take]; rfl)) ?_; (with_reducible refine (Given.SgParse.calls (((t168 ++ t169) ++ a0) ++ t170) t172 t173 _ A22.out).mono ?_); rintro e w35 ⟨rfl, hb⟩; refine ⟨_, rfl, ?_⟩; have n0_ := Aside0.mk (below_step (by repeat (first | (with_reducible first | exact HB.out | apply below_alloc | apply pw_below_drewN | apply below_drew1) | exact HB.out)) hb); clear HB; have HB := n0_; clear n0_; (try clear hb); (try clear hb2); (try clear hk); (try clear hi)) | ((with_reducible refine gate_callee (f := 11) rfl ?_); refine goesL_ (some 71) rfl rfl Try.func11 (by kernel_rfl) rfl #[.string a0, .int .i64 (wrap64 (a1)), .int .i64 (wrap64 (a2)), .int .i64 0] rfl (by (try simp only [List.map_toArray, List.map_cons, List.map_nil]); first | done | rfl | (simp only [List.length_drop, List.length_take]; rfl)) ?_; (with_reducible refine (Given.SgBegin.calls a0 (wrap64 (a1)) (wrap64 (a2)) 0 t174 false _ A23.out).mono ?_); rintro e w36 ⟨rfl, hb⟩; refine ⟨_, rfl, ?_⟩; have n0_ := Aside0.mk (below_step (by repeat (first | (with_reducible first | exact HB.out | apply below_alloc | apply pw_below_drewN | apply below_drew1) | exact HB.out)) hb); clear HB; have HB := n0_; clear n0_; (try clear hb); (try clear hb2); (try clear hk); (try clear hi)) | ((with_reducible refine gate_callee (f := 14) rfl ?_); refine goesL_ (some 75) rfl rfl Try.func14 (by kernel_rfl) rfl #[.string (⟨#[121]⟩ : ByteArray)] rfl (by (try simp only [List.map_toArray, List.map_cons, List.map_nil]); first | done | rfl | (simp only [List.length_drop, List.length_take]; rfl)) ?_; (with_reducible refine (Given.SgParse.calls (⟨#[121]⟩ : ByteArray) t176 t177 _ A24.out).mono ?_); rintro e w37 ⟨rfl, hb⟩; refine ⟨_, rfl, ?_⟩; have n0_ := Aside0.mk (below_step (by repeat (first | (with_reducible first | exact HB.out | apply below_alloc | apply pw_below_drewN | apply below_drew1) | exact HB.out)) hb); clear HB; have HB := n0_; clear n0_; (try clear hb); (try clear hb2); (try clear hk); (try clear hi)))
                        go_ret
                        exact ⟨by first | rfl | (simp [errW_none, errW_some] <;> rfl) | (simp [*, errW_none, errW_some] <;> rfl), by repeat (first | (with_reducible first | exact HB.out | apply below_alloc | apply pw_below_drewN | apply below_drew1) | exact HB.out)⟩
                    · rw [if_neg c26] at H
                      have c26b0 : (t175 == (t171 == (a0.size : Int))) = false := by simpa using c26
                      (try (have c26b1 : decide (t175 = (t171 == (a0.size : Int))) = false := by simpa using c26))
                      (try (have c26b2 : (t175 == (t171 == (a0.size : Int))) = false := by simpa using c26))
                      (try (have c26b3 : ¬ (t175 = (t171 == (a0.size : Int))) := by simpa using c26))
                      clear c26
                      obtain rfl := Option.some.inj H
                      go_wp2_with (first | ((with_reducible refine gate_callee (f := 19) rfl ?_); refine goesL_ (some 41) rfl rfl Try.func19 (by kernel_rfl) rfl #[.string (⟨#[40]⟩ : ByteArray), .int .i64 (wrap64 (a2))] rfl (by (try simp only [List.map_toArray, List.map_cons, List.map_nil]); first | done | rfl | (simp only [List.length_drop, List.length_take]; rfl)) ?_; (with_reducible refine (laws_sgRepeat.calls kj4 (⟨#[40]⟩ : ByteArray) (wrap64 (a2)) t168 _ A14.out).mono ?_); rintro e w' ⟨rfl, ⟨nd, rfl⟩⟩; refine ⟨_, rfl, ?_⟩) | ((with_reducible refine gate_callee (f := 19) rfl ?_); refine goesL_ (some 43) rfl rfl Try.func19 (by kernel_rfl) rfl #[.string (⟨#[97]⟩ : ByteArray), .int .i64 (wrap64 (a1))] rfl (by (try simp only [List.map_toArray, List.map_cons, List.map_nil]); first | done | rfl | (simp only [List.length_drop, List.length_take]; rfl)) ?_; (with_reducible refine (laws_sgRepeat.calls kj4 (⟨#[97]⟩ : ByteArray) (wrap64 (a1)) t169 _ A15.out).mono ?_); rintro e w' ⟨rfl, ⟨nd, rfl⟩⟩; refine ⟨_, rfl, ?_⟩) | ((with_reducible refine gate_callee (f := 19) rfl ?_); refine goesL_ (some 48) rfl rfl Try.func19 (by kernel_rfl) rfl #[.string (⟨#[41]⟩ : ByteArray), .int .i64 (wrap64 (a2))] rfl (by (try simp only [List.map_toArray, List.map_cons, List.map_nil]); first | done | rfl | (simp only [List.length_drop, List.length_take]; rfl)) ?_; (with_reducible refine (laws_sgRepeat.calls kj4 (⟨#[41]⟩ : ByteArray) (wrap64 (a2)) t170 _ A18.out).mono ?_); rintro e w' ⟨rfl, ⟨nd, rfl⟩⟩; refine ⟨_, rfl, ?_⟩) | ((with_reducible refine gate_callee (f := 10) rfl ?_); refine goesL_ (some 58) rfl rfl Try.func10 (by kernel_rfl) rfl #[.string a0, .int .i64 (wrap64 (32 - (wrap64 (a1)))), .int .i64 (wrap64 (32 - (wrap64 (a2)))), .int .i64 32] rfl (by (try simp only [List.map_toArray, List.map_cons, List.map_nil]); first | done | rfl | (simp only [List.length_drop, List.length_take]; rfl)) ?_; (with_reducible refine (spec_Complete.calls kj4 a0 (wrap64 (32 - (wrap64 (a1)))) (wrap64 (32 - (wrap64 (a2)))) 32 t171 _ A21.out).mono ?_); rintro e w' ⟨rfl, ⟨nd, rfl⟩⟩; refine ⟨_, rfl, ?_⟩) | ((with_reducible refine gate_callee (f := 14) rfl ?_); refine goesL_ (some 64) rfl rfl Try.func14 (by kernel_rfl) rfl #[.string (((t168 ++ t169) ++ a0) ++ t170)] rfl (by (try simp only [List.map_toArray, List.map_cons, List.map_nil]); first | done | rfl | (simp only [List.length_drop, List.length_take]; rfl)) ?_; (with_reducible refine (Given.SgParse.calls (((t168 ++ t169) ++ a0) ++ t170) t172 t173 _ A22.out).mono ?_); rintro e w38 ⟨rfl, hb⟩; refine ⟨_, rfl, ?_⟩; have n0_ := Aside0.mk (below_step (by repeat (first | (with_reducible first | exact HB.out | apply below_alloc | apply pw_below_drewN | apply below_drew1) | exact HB.out)) hb); clear HB; have HB := n0_; clear n0_; (try clear hb); (try clear hb2); (try clear hk); (try clear hi)) | ((with_reducible refine gate_callee (f := 11) rfl ?_); refine goesL_ (some 71) rfl rfl Try.func11 (by kernel_rfl) rfl #[.string a0, .int .i64 (wrap64 (a1)), .int .i64 (wrap64 (a2)), .int .i64 0] rfl (by (try simp only [List.map_toArray, List.map_cons, List.map_nil]); first | done | rfl | (simp only [List.length_drop, List.length_take]; rfl)) ?_; (with_reducible refine (Given.SgBegin.calls a0 (wrap64 (a1)) (wrap64 (a2)) 0 t174 t175 _ A23.out).mono ?_); rintro e w39 ⟨rfl, hb⟩; refine ⟨_, rfl, ?_⟩; have n0_ := Aside0.mk (below_step (by repeat (first | (with_reducible first | exact HB.out | apply below_alloc | apply pw_below_drewN | apply below_drew1) | exact HB.out)) hb); clear HB; have HB := n0_; clear n0_; (try clear hb); (try clear hb2); (try clear hk); (try clear hi)) | ((with_reducible refine gate_callee (f := 14) rfl ?_); refine goesL_ (some 75) rfl rfl Try.func14 (by kernel_rfl) rfl #[.string (⟨#[121]⟩ : ByteArray)] rfl (by (try simp only [List.map_toArray, List.map_cons, List.map_nil]); first | done | rfl | (simp only [List.length_drop, List.length_take]; rfl)) ?_; (with_reducible refine (Given.SgParse.calls (⟨#[121]⟩ : ByteArray) t176 t177 _ A24.out).mono ?_); rintro e w40 ⟨rfl, hb⟩; refine ⟨_, rfl, ?_⟩; have n0_ := Aside0.mk (below_step (by repeat (first | (with_reducible first | exact HB.out | apply below_alloc | apply pw_below_drewN | apply below_drew1) | exact HB.out)) hb); clear HB; have HB := n0_; clear n0_; (try clear hb); (try clear hb2); (try clear hk); (try clear hi)))
                      go_ret
                      exact ⟨by first | rfl | (simp [errW_none, errW_some] <;> rfl) | (simp [*, errW_none, errW_some] <;> rfl), by repeat (first | (with_reducible first | exact HB.out | apply below_alloc | apply pw_below_drewN | apply below_drew1) | exact HB.out)⟩
                  · rw [if_neg c25] at H
                    have c25b0 : (t173 == (t171 == (a0.size : Int))) = false := by simpa using c25
                    (try (have c25b1 : decide (t173 = (t171 == (a0.size : Int))) = false := by simpa using c25))
                    (try (have c25b2 : (t173 == (t171 == (a0.size : Int))) = false := by simpa using c25))
                    (try (have c25b3 : ¬ (t173 = (t171 == (a0.size : Int))) := by simpa using c25))
                    clear c25
                    obtain rfl := Option.some.inj H
                    go_wp2_with (first | ((with_reducible refine gate_callee (f := 19) rfl ?_); refine goesL_ (some 41) rfl rfl Try.func19 (by kernel_rfl) rfl #[.string (⟨#[40]⟩ : ByteArray), .int .i64 (wrap64 (a2))] rfl (by (try simp only [List.map_toArray, List.map_cons, List.map_nil]); first | done | rfl | (simp only [List.length_drop, List.length_take]; rfl)) ?_; (with_reducible refine (laws_sgRepeat.calls kj4 (⟨#[40]⟩ : ByteArray) (wrap64 (a2)) t168 _ A14.out).mono ?_); rintro e w' ⟨rfl, ⟨nd, rfl⟩⟩; refine ⟨_, rfl, ?_⟩) | ((with_reducible refine gate_callee (f := 19) rfl ?_); refine goesL_ (some 43) rfl rfl Try.func19 (by kernel_rfl) rfl #[.string (⟨#[97]⟩ : ByteArray), .int .i64 (wrap64 (a1))] rfl (by (try simp only [List.map_toArray, List.map_cons, List.map_nil]); first | done | rfl | (simp only [List.length_drop, List.length_take]; rfl)) ?_; (with_reducible refine (laws_sgRepeat.calls kj4 (⟨#[97]⟩ : ByteArray) (wrap64 (a1)) t169 _ A15.out).mono ?_); rintro e w' ⟨rfl, ⟨nd, rfl⟩⟩; refine ⟨_, rfl, ?_⟩) | ((with_reducible refine gate_callee (f := 19) rfl ?_); refine goesL_ (some 48) rfl rfl Try.func19 (by kernel_rfl) rfl #[.string (⟨#[41]⟩ : ByteArray), .int .i64 (wrap64 (a2))] rfl (by (try simp only [List.map_toArray, List.map_cons, List.map_nil]); first | done | rfl | (simp only [List.length_drop, List.length_take]; rfl)) ?_; (with_reducible refine (laws_sgRepeat.calls kj4 (⟨#[41]⟩ : ByteArray) (wrap64 (a2)) t170 _ A18.out).mono ?_); rintro e w' ⟨rfl, ⟨nd, rfl⟩⟩; refine ⟨_, rfl, ?_⟩) | ((with_reducible refine gate_callee (f := 10) rfl ?_); refine goesL_ (some 58) rfl rfl Try.func10 (by kernel_rfl) rfl #[.string a0, .int .i64 (wrap64 (32 - (wrap64 (a1)))), .int .i64 (wrap64 (32 - (wrap64 (a2)))), .int .i64 32] rfl (by (try simp only [List.map_toArray, List.map_cons, List.map_nil]); first | done | rfl | (simp only [List.length_drop, List.length_take]; rfl)) ?_; (with_reducible refine (spec_Complete.calls kj4 a0 (wrap64 (32 - (wrap64 (a1)))) (wrap64 (32 - (wrap64 (a2)))) 32 t171 _ A21.out).mono ?_); rintro e w' ⟨rfl, ⟨nd, rfl⟩⟩; refine ⟨_, rfl, ?_⟩) | ((with_reducible refine gate_callee (f := 14) rfl ?_); refine goesL_ (some 64) rfl rfl Try.func14 (by kernel_rfl) rfl #[.string (((t168 ++ t169) ++ a0) ++ t170)] rfl (by (try simp only [List.map_toArray, List.map_cons, List.map_nil]); first | done | rfl | (simp only [List.length_drop, List.length_take]; rfl)) ?_; (with_reducible refine (Given.SgParse.calls (((t168 ++ t169) ++ a0) ++ t170) t172 t173 _ A22.out).mono ?_); rintro e w41 ⟨rfl, hb⟩; refine ⟨_, rfl, ?_⟩; have n0_ := Aside0.mk (below_step (by repeat (first | (with_reducible first | exact HB.out | apply below_alloc | apply pw_below_drewN | apply below_drew1) | exact HB.out)) hb); clear HB; have HB := n0_; clear n0_; (try clear hb); (try clear hb2); (try clear hk); (try clear hi)) | ((with_reducible refine gate_callee (f := 11) rfl ?_); refine goesL_ (some 71) rfl rfl Try.func11 (by kernel_rfl) rfl #[.string a0, .int .i64 (wrap64 (a1)), .int .i64 (wrap64 (a2)), .int .i64 0] rfl (by (try simp only [List.map_toArray, List.map_cons, List.map_nil]); first | done | rfl | (simp only [List.length_drop, List.length_take]; rfl)) ?_; (with_reducible refine (Given.SgBegin.calls a0 (wrap64 (a1)) (wrap64 (a2)) 0 t174 t175 _ A23.out).mono ?_); rintro e w42 ⟨rfl, hb⟩; refine ⟨_, rfl, ?_⟩; have n0_ := Aside0.mk (below_step (by repeat (first | (with_reducible first | exact HB.out | apply below_alloc | apply pw_below_drewN | apply below_drew1) | exact HB.out)) hb); clear HB; have HB := n0_; clear n0_; (try clear hb); (try clear hb2); (try clear hk); (try clear hi)) | ((with_reducible refine gate_callee (f := 14) rfl ?_); refine goesL_ (some 75) rfl rfl Try.func14 (by kernel_rfl) rfl #[.string (⟨#[121]⟩ : ByteArray)] rfl (by (try simp only [List.map_toArray, List.map_cons, List.map_nil]); first | done | rfl | (simp only [List.length_drop, List.length_take]; rfl)) ?_; (with_reducible refine (Given.SgParse.calls (⟨#[121]⟩ : ByteArray) t176 t177 _ A24.out).mono ?_); rintro e w43 ⟨rfl, hb⟩; refine ⟨_, rfl, ?_⟩; have n0_ := Aside0.mk (below_step (by repeat (first | (with_reducible first | exact HB.out | apply below_alloc | apply pw_below_drewN | apply below_drew1) | exact HB.out)) hb); clear HB; have HB := n0_; clear n0_; (try clear hb); (try clear hb2); (try clear hk); (try clear hi)))
                    go_ret
                    exact ⟨by first | rfl | (simp [errW_none, errW_some] <;> rfl) | (simp [*, errW_none, errW_some] <;> rfl), by repeat (first | (with_reducible first | exact HB.out | apply below_alloc | apply pw_below_drewN | apply below_drew1) | exact HB.out)⟩
              · rw [if_neg c19] at H
                exact absurd H (by simp)
            · rw [if_neg c17] at H
              exact absurd H (by simp)
          · rw [if_neg c16] at H
            exact absurd H (by simp)

/-- THE ONE PURE STATEMENT of laws_FnSgWithin: yours. -/
def laws_FnSgWithin.Pure : Prop := ∀ (a0 : ByteArray) (a1 : Int) (a2 : Int), a0.size ≤ 140737488351232 → (Lit.int .u8 a1).wf = true → (Lit.int .u8 a2).wf = true → ∃ k, laws_FnSgWithin.f k a0 a1 a2 = some true
theorem laws_FnSgWithin.walk (P : laws_FnSgWithin.Pure) (a0 : ByteArray) (a1 : Int) (a2 : Int) (w : World) (w0 : a0.size ≤ 140737488351232) (w1 : (Lit.int .u8 a1).wf = true) (w2 : (Lit.int .u8 a2).wf = true) :
    Calls Try.prog 8 #[.string a0, .int .u8 a1, .int .u8 a2] w fun e w' => e = .returned (.bool true) ∧ Below w.heap.size w w' := by
  obtain ⟨k, h⟩ := P a0 a1 a2 w0 w1 w2
  refine (laws_FnSgWithin.calls k a0 a1 a2 true w h).mono ?_
  rintro e w' ⟨rfl, hd⟩
  exact ⟨rfl, hd⟩

end Go.Proofs.Ythkblpbabcibcaa.PSg

-- Written by a program of this session (wip/tools/myprint.py) for this claim.
import Derived.Test.YtgljkbhjbefikaaDoorPUqx0
import Derived.Test.YtgljkbhjbefikaaDoorPUqx1
namespace Go.Proofs.YtgljkbhjbefikaaDoor.PUq
open Go.RowKit Go.Proofs.YtgljkbhjbefikaaDoorW.PrintWords Go.Proofs.YtgljkbhjbefikaaDoorW.PrintLast Go.Proofs.YtgljkbhjbefikaaDoorW.PrintMore
attribute [local go_sem] max2_int min2_int max_two min_two max_three min_three max_four min_four   -- for this text's walks alone
set_option linter.unusedVariables false
set_option linter.unusedSimpArgs false

/-! ### laws_FnVtUnquotePlain: function 4 -/
mutual
def laws_FnVtUnquotePlain.j0 : Nat → ByteArray → Int → Option (Bool)
  | 0, _, _ => none
  | k + 1, x0, x5 => laws_FnVtUnquotePlain.l0 k x0 x5 0
def laws_FnVtUnquotePlain.l0 : Nat → ByteArray → Int → Int → Option (Bool)
  | 0, _, _, _ => none
  | k + 1, x0, x5, x6 => if x6 < (x0.size : Int) then (if 0 ≤ x6 then (if (bt x0 x6) = 92 then (some true) else (if (bt x0 x6) = x5 then (some true) else (laws_FnVtUnquotePlain.l0 k x0 x5 (wrap64 (x6 + 1))))) else (none)) else (if (x0.size : Int) > 4096 then (some true) else ((some (([x5] : List Int) : List Int)).bind fun y106 => (if (strOfNums y106).size + x0.size ≤ 9223372036854775807 then (if ((strOfNums y106) ++ x0).size + (strOfNums y106).size ≤ 9223372036854775807 then ((Given.unq.f (((strOfNums y106) ++ x0) ++ (strOfNums y106))).bind fun bt109 => ((spec_UTF8.f k x0).bind fun t111 => (if (bt109.2 == t111) = true then (if bt109.2 = true then (some (bt109.1.toList == x0.toList)) else (some true)) else (some false)))) else (none)) else (none))))
end
def laws_FnVtUnquotePlain.f (k : Nat) (a0 : ByteArray) (a1 : Bool) : Option (Bool) := if (a0.size : Int) > 2147483647 then (some true) else (if a1 = true then (laws_FnVtUnquotePlain.j0 k a0 34) else (laws_FnVtUnquotePlain.j0 k a0 39))
theorem laws_FnVtUnquotePlain.mono_l : ∀ k, (∀ y0 y1, LeO (laws_FnVtUnquotePlain.j0 k y0 y1) (laws_FnVtUnquotePlain.j0 (k + 1) y0 y1)) ∧ (∀ y0 y1 y2, LeO (laws_FnVtUnquotePlain.l0 k y0 y1 y2) (laws_FnVtUnquotePlain.l0 (k + 1) y0 y1 y2))
  | 0 => ⟨fun _ _ r h => by simp [laws_FnVtUnquotePlain.j0] at h, fun _ _ _ r h => by simp [laws_FnVtUnquotePlain.l0] at h⟩
  | k + 1 => by
    obtain ⟨ih0, ih1⟩ := laws_FnVtUnquotePlain.mono_l k
    refine ⟨?_, ?_⟩
    · intro y0 y1
      unfold laws_FnVtUnquotePlain.j0
      repeat' first
      | (with_reducible exact ih0 _ _)
      | (with_reducible exact ih1 _ _ _)
      | (with_reducible exact spec_UTF8.mono _ _)
      | (with_reducible exact LeO.refl _)
      | (with_reducible exact LeO.none _)
      | (with_reducible refine LeO.ite ?_ ?_)
      | (with_reducible refine LeO.bind ?_ (fun _ => ?_))
      | exact ih0 _ _
      | exact ih1 _ _ _
      | exact spec_UTF8.mono _ _
      | exact LeO.none _
      | refine LeO.ite ?_ ?_
      | refine LeO.bind ?_ (fun _ => ?_)
    · intro y0 y1 y2
      unfold laws_FnVtUnquotePlain.l0
      repeat' first
      | (with_reducible exact ih0 _ _)
      | (with_reducible exact ih1 _ _ _)
      | (with_reducible exact spec_UTF8.mono _ _)
      | (with_reducible exact LeO.refl _)
      | (with_reducible exact LeO.none _)
      | (with_reducible refine LeO.ite ?_ ?_)
      | (with_reducible refine LeO.bind ?_ (fun _ => ?_))
      | exact ih0 _ _
      | exact ih1 _ _ _
      | exact spec_UTF8.mono _ _
      | exact LeO.none _
      | refine LeO.ite ?_ ?_
      | refine LeO.bind ?_ (fun _ => ?_)
theorem laws_FnVtUnquotePlain.mono : ∀ a0 a1 k, LeO (laws_FnVtUnquotePlain.f k a0 a1) (laws_FnVtUnquotePlain.f (k + 1) a0 a1) := by
  intro a0 a1 k
  obtain ⟨ih0, ih1⟩ := laws_FnVtUnquotePlain.mono_l k
  unfold laws_FnVtUnquotePlain.f
  repeat' first
      | (with_reducible exact ih0 _ _)
      | (with_reducible exact ih1 _ _ _)
      | (with_reducible exact spec_UTF8.mono _ _)
      | (with_reducible exact LeO.refl _)
      | (with_reducible exact LeO.none _)
      | (with_reducible refine LeO.ite ?_ ?_)
      | (with_reducible refine LeO.bind ?_ (fun _ => ?_))
      | exact ih0 _ _
      | exact ih1 _ _ _
      | exact spec_UTF8.mono _ _
      | exact LeO.none _
      | refine LeO.ite ?_ ?_
      | refine LeO.bind ?_ (fun _ => ?_)
set_option maxHeartbeats 8000000 in
set_option maxRecDepth 100000 in
theorem laws_FnVtUnquotePlain.calls (k : Nat) (a0 : ByteArray) (a1 : Bool) (r : Bool) (w : World) (hG : Given.Tabs w) (h : laws_FnVtUnquotePlain.f k a0 a1 = some r) :
    Calls Tryd.prog 4 #[.string a0, .bool a1] w fun e w' => e = .returned (.bool r) ∧ Below w.heap.size w w' := by
  have HG := Aside0.mk hG
  clear hG
  have HB := Aside0.mk (Below.refl w.heap.size w)
  have H : (if (a0.size : Int) > 2147483647 then (some true) else (if a1 = true then (laws_FnVtUnquotePlain.j0 k a0 34) else (laws_FnVtUnquotePlain.j0 k a0 39))) = some r := h
  clear h
  by_cases c3 : (a0.size : Int) > 2147483647
  · rw [if_pos c3] at H
    have c3b0 : decide (2147483647 < (a0.size : Int)) = true := decide_eq_true c3
    have c3b1 : decide (2147483647 < a0.size) = true := decide_eq_true (by omega)
    clear c3
    obtain rfl := Option.some.inj H
    go_enter Tryd.func4, Tryd.ntmps4
    go_wp2
    go_ret
    exact ⟨by first | rfl | (simp [errW_none, errW_some] <;> rfl) | (simp [*, errW_none, errW_some] <;> rfl), by repeat (first | (with_reducible first | exact HB.out | apply below_alloc | apply pw_below_drewN | apply below_drew1) | exact HB.out)⟩
  · rw [if_neg c3] at H
    have c3b0 : decide (2147483647 < (a0.size : Int)) = false := decide_eq_false c3
    have c3b1 : decide (2147483647 < a0.size) = false := decide_eq_false (by omega)
    clear c3
    have HC4 := Aside0.mk H
    clear H
    go_enter Tryd.func4, Tryd.ntmps4
    go_upto_if 13 with (fail)
    go_cut [5] (fun v5 wc => ∃ (kq : Nat) (x5_3 : Int), v5 = .int .u8 x5_3 ∧ Aside0 (laws_FnVtUnquotePlain.j0 kq a0 x5_3 = some r) ∧ Aside0 (kq ≤ k) ∧ Aside0 (Below w.heap.size w wc))
    case first =>
      have H := HC4.out
      clear HC4
      by_cases c5 : a1 = true
      · subst c5
        have H1 : (laws_FnVtUnquotePlain.j0 k a0 34) = some r := by rw [if_pos rfl] at H; exact H
        clear H
        have H := H1
        clear H1
        have H' := Aside0.mk H
        clear H
        go_wp2
        go_meet
        case rel => exact ⟨_, (34), (by first | rfl | (simp; done) | (simp [*]; done)), H', ⟨by first | omega | exact Nat.le_refl _⟩, ⟨by repeat (first | (with_reducible first | exact HB.out | apply below_alloc | apply pw_below_drewN | apply below_drew1) | exact HB.out)⟩⟩
      · replace c5 := Bool.eq_false_iff.mpr c5
        subst c5
        have H1 : (laws_FnVtUnquotePlain.j0 k a0 39) = some r := by rw [if_neg (show ¬ (false = true) by decide)] at H; exact H
        clear H
        have H := H1
        clear H1
        have H' := Aside0.mk H
        clear H
        go_wp2
        go_meet
        case rel => exact ⟨_, (39), (by first | rfl | (simp; done) | (simp [*]; done)), H', ⟨by first | omega | exact Nat.le_refl _⟩, ⟨by repeat (first | (with_reducible first | exact HB.out | apply below_alloc | apply pw_below_drewN | apply below_drew1) | exact HB.out)⟩⟩
    case rest =>
      clear HC4
      try clear p2
      try clear c3
      try clear c3b0
      try clear c3b1
      try clear c4
      try clear c5
      obtain ⟨kq, x5_3, rfl, HA, HJ3, HB⟩ := hcut
      cases kq with
      | zero => exact absurd HA.out (by simp [laws_FnVtUnquotePlain.j0])
      | succ kj3 =>
        have H := HA.out
        clear HA
        simp only [laws_FnVtUnquotePlain.j0] at H
        have H' := Aside0.mk H
        clear H
        go_wp2
        go_loopg [6] kj3 (fun kq v6 w' => ∃ (x6_2 : Int), v6 = .int .i64 x6_2 ∧ Aside0 (laws_FnVtUnquotePlain.l0 kq a0 x5_3 x6_2 = some r) ∧ Aside0 (kq ≤ kj3) ∧ Aside0 (Below w.heap.size w w'))
        case atStart => exact ⟨(0), (by first | rfl | (simp; done) | (simp [*]; done)), H', ⟨Nat.le_refl _⟩, ⟨by repeat (first | (with_reducible first | exact HB.out | apply below_alloc | apply pw_below_drewN | apply below_drew1) | exact HB.out)⟩⟩
        case round =>
          clear H'
          try clear p2
          try clear c3
          try clear c3b0
          try clear c3b1
          try clear c4
          try clear c5
          try clear p2
          obtain ⟨x6_2, rfl, HA, HK2, HB⟩ := hrel
          cases gk with
          | zero => exact absurd HA.out (by simp [laws_FnVtUnquotePlain.l0])
          | succ k2 =>
            have H := HA.out
            clear HA
            simp only [laws_FnVtUnquotePlain.l0] at H
            by_cases c6 : x6_2 < (a0.size : Int)
            · rw [if_pos c6] at H
              have c6b0 : decide (x6_2 < (a0.size : Int)) = true := decide_eq_true c6
              clear c6
              by_cases c7 : 0 ≤ x6_2
              · rw [if_pos c7] at H
                have c7b0 : decide (0 ≤ x6_2) = true := decide_eq_true c7
                clear c7
                by_cases c9 : (bt a0 x6_2) = 92
                · rw [if_pos c9] at H
                  have c9b0 : ((bt a0 x6_2) == 92) = true := beq_iff_eq.mpr c9
                  have c9b1 : ((bt a0 x6_2) != 92) = false := bne_eq_false_iff_eq.mpr c9
                  clear c9
                  obtain rfl := Option.some.inj H
                  have p8 : 0 ≤ (x6_2 : Int) := of_decide_eq_true (by first | (with_reducible assumption) | assumption)
                  have q8 : x6_2 < (a0.size : Int) := of_decide_eq_true (by first | (with_reducible assumption) | assumption)
                  have hx8 := bt_at a0 x6_2
                  replace p8 := eq_true p8
                  replace q8 := eq_true q8
                  go_wp2
                  go_ret
                  exact ⟨by first | rfl | (simp [errW_none, errW_some] <;> rfl) | (simp [*, errW_none, errW_some] <;> rfl), by repeat (first | (with_reducible first | exact HB.out | apply below_alloc | apply pw_below_drewN | apply below_drew1) | exact HB.out)⟩
                · rw [if_neg c9] at H
                  have c9b0 : ((bt a0 x6_2) == 92) = false := beq_eq_false_iff_ne.mpr c9
                  have c9b1 : ((bt a0 x6_2) != 92) = true := bne_iff_ne.mpr c9
                  by_cases c11 : (bt a0 x6_2) = x5_3
                  · rw [if_pos c11] at H
                    have c11b0 : ((bt a0 x6_2) == x5_3) = true := beq_iff_eq.mpr c11
                    have c11b1 : ((bt a0 x6_2) != x5_3) = false := bne_eq_false_iff_eq.mpr c11
                    clear c11
                    obtain rfl := Option.some.inj H
                    have p8 : 0 ≤ (x6_2 : Int) := of_decide_eq_true (by first | (with_reducible assumption) | assumption)
                    have q8 : x6_2 < (a0.size : Int) := of_decide_eq_true (by first | (with_reducible assumption) | assumption)
                    have hx8 := bt_at a0 x6_2
                    replace p8 := eq_true p8
                    replace q8 := eq_true q8
                    have p10 : 0 ≤ (x6_2 : Int) := of_decide_eq_true (by first | (with_reducible assumption) | assumption)
                    have q10 : x6_2 < (a0.size : Int) := of_decide_eq_true (by first | (with_reducible assumption) | assumption)
                    have hx10 := bt_at a0 x6_2
                    replace p10 := eq_true p10
                    replace q10 := eq_true q10
                    go_wp2
                    go_ret
                    exact ⟨by first | rfl | (simp [errW_none, errW_some] <;> rfl) | (simp [*, errW_none, errW_some] <;> rfl), by repeat (first | (with_reducible first | exact HB.out | apply below_alloc | apply pw_below_drewN | apply below_drew1) | exact HB.out)⟩
                  · rw [if_neg c11] at H
                    have c11b0 : ((bt a0 x6_2) == x5_3) = false := beq_eq_false_iff_ne.mpr c11
                    have c11b1 : ((bt a0 x6_2) != x5_3) = true := bne_iff_ne.mpr c11
                    have H' := Aside0.mk H
                    clear H
                    have p8 : 0 ≤ (x6_2 : Int) := of_decide_eq_true (by first | (with_reducible assumption) | assumption)
                    have q8 : x6_2 < (a0.size : Int) := of_decide_eq_true (by first | (with_reducible assumption) | assumption)
                    have hx8 := bt_at a0 x6_2
                    replace p8 := eq_true p8
                    replace q8 := eq_true q8
                    have p10 : 0 ≤ (x6_2 : Int) := of_decide_eq_true (by first | (with_reducible assumption) | assumption)
                    have q10 : x6_2 < (a0.size : Int) := of_decide_eq_true (by first | (with_reducible assumption) | assumption)
                    have hx10 := bt_at a0 x6_2
                    replace p10 := eq_true p10
                    replace q10 := eq_true q10
                    go_wp2
                    go_roundg k2
                    case measure => have := HJ3.out; have := HK2.out; omega
                    case rel => exact ⟨(wrap64 (x6_2 + 1)), (by first | rfl | (simp; done) | (simp [*]; done)), H', ⟨by have := HJ3.out; have := HK2.out; omega⟩, ⟨by repeat (first | (with_reducible first | exact HB.out | apply below_alloc | apply pw_below_drewN | apply below_drew1) | exact HB.out)⟩⟩
              · rw [if_neg c7] at H
                exact absurd H (by simp)
            · rw [if_neg c6] at H
              have c6b0 : decide (x6_2 < (a0.size : Int)) = false := decide_eq_false c6
              clear c6
              by_cases c12 : (a0.size : Int) > 4096
              · rw [if_pos c12] at H
                have c12b0 : decide (4096 < (a0.size : Int)) = true := decide_eq_true c12
                have c12b1 : decide (4096 < a0.size) = true := decide_eq_true (by omega)
                clear c12
                obtain rfl := Option.some.inj H
                go_wp2
                go_ret
                exact ⟨by first | rfl | (simp [errW_none, errW_some] <;> rfl) | (simp [*, errW_none, errW_some] <;> rfl), by repeat (first | (with_reducible first | exact HB.out | apply below_alloc | apply pw_below_drewN | apply below_drew1) | exact HB.out)⟩
              · rw [if_neg c12] at H
                have c12b0 : decide (4096 < (a0.size : Int)) = false := decide_eq_false c12
                have c12b1 : decide (4096 < a0.size) = false := decide_eq_false (by omega)
                clear c12
                obtain ⟨y106, hy106⟩ : ∃ y_ : List Int, y_ = (([x5_3] : List Int)) := ⟨_, rfl⟩
                replace H : (if (strOfNums y106).size + a0.size ≤ 9223372036854775807 then (if ((strOfNums y106) ++ a0).size + (strOfNums y106).size ≤ 9223372036854775807 then ((Given.unq.f (((strOfNums y106) ++ a0) ++ (strOfNums y106))).bind fun bt109 => ((spec_UTF8.f k2 a0).bind fun t111 => (if (bt109.2 == t111) = true then (if bt109.2 = true then (some (bt109.1.toList == a0.toList)) else (some true)) else (some false)))) else (none)) else (none)) = some r := by first | (rw [hy106]; with_reducible exact H) | (have H2_ := (Option.bind_some _ _).symm.trans H; rw [hy106]; with_reducible exact H2_) | (have H2_ := (Option.bind_some _ _).symm.trans H; with_reducible exact H2_) | with_reducible exact H | (rw [hy106]; exact H) | exact H
                have Ny106 := Aside0.mk hy106
                clear hy106
                by_cases c13 : (strOfNums y106).size + a0.size ≤ 9223372036854775807
                · rw [if_pos c13] at H
                  have c13b0 := eq_true c13
                  have c13b1 : decide ((strOfNums y106).size + a0.size ≤ 9223372036854775807) = true := decide_eq_true c13
                  try have c13b2 : (9223372036854775807 < (strOfNums y106).size + a0.size) = False := eq_false (Nat.not_lt.2 c13)
                  by_cases c14 : ((strOfNums y106) ++ a0).size + (strOfNums y106).size ≤ 9223372036854775807
                  · rw [if_pos c14] at H
                    have c14b0 := eq_true c14
                    have c14b1 : decide (((strOfNums y106) ++ a0).size + (strOfNums y106).size ≤ 9223372036854775807) = true := decide_eq_true c14
                    try have c14b2 : (9223372036854775807 < ((strOfNums y106) ++ a0).size + (strOfNums y106).size) = False := eq_false (Nat.not_lt.2 c14)
                    replace H := Option.bind_eq_some_iff.mp H
                    obtain ⟨⟨t109, t110⟩, A150, H⟩ := H
                    replace H : ((spec_UTF8.f k2 a0).bind fun t111 => (if (t110 == t111) = true then (if t110 = true then (some (t109.toList == a0.toList)) else (some true)) else (some false))) = some r := H
                    have A15 := Aside0.mk A150
                    clear A150
                    replace H := Option.bind_eq_some_iff.mp H
                    obtain ⟨t111, A160, H⟩ := H
                    replace H : (if (t110 == t111) = true then (if t110 = true then (some (t109.toList == a0.toList)) else (some true)) else (some false)) = some r := H
                    have A16 := Aside0.mk A160
                    clear A160
                    by_cases c17 : (t110 == t111) = true
                    · rw [if_pos c17] at H
                      have c17b0 : (t110 == t111) = true := c17
                      (try (have c17b1 : decide (t110 = t111) = true := by simpa using c17))
                      (try (have c17b2 : (t110 == t111) = true := by simpa using c17))
                      clear c17
                      by_cases c18 : t110 = true
                      · subst c18
                        have H1 : (some (t109.toList == a0.toList)) = some r := by rw [if_pos rfl] at H; exact H
                        clear H
                        have H := H1
                        clear H1
                        obtain rfl := Option.some.inj H
                        go_wp2_with (first | ((with_reducible refine gate_dst (N := 35) rfl ?_); refine Kd.R_lit (Kd.int .u8) _ 5 ?hg (N := 35) ?hd (xs := ([x5_3] : List Int)) (inner := [.int .u8 x5_3]) (ok := fun _ => True) (okp := fun _ => True) ?hr ?hp (fun _ hk => hk) trivial (Below.refl _ _) (Nat.le_refl _) (by simp) ?_; (case hd => rfl); (case hg => rfl); (case hr => first | (go_simp; done) | (go_simp; rfl)); (case hp => exact (Reps.one (show Kd.M (Kd.int .u8) _ _ _ x5_3 [.int .u8 x5_3] from rfl) (Reps.none _ _))); intro v107 w19 ho20 hb hg_ hnew_; clear hg_ hnew_; (first | rw [← Ny106.out] at ho20 | (simp only [Int.reduceToNat] at ho20; rw [← Ny106.out] at ho20)); have n0_ := Aside0.mk (Kd.R_lower ho20 (below_size (by repeat (first | (with_reducible first | exact HB.out | apply below_alloc | apply pw_below_drewN | apply below_drew1) | exact HB.out)))); have n1_ := Aside0.mk (below_step (by repeat (first | (with_reducible first | exact HB.out | apply below_alloc | apply pw_below_drewN | apply below_drew1) | exact HB.out)) hb); clear HB; have HO108 := n0_; have HB := n1_; clear n0_ n1_; clear hb ho20; have hcv21 := own_string (P := Tryd.prog) Tryd.underlying26 Tryd.underlying5 Tryd.underlying9 (Kd.own_of_R HO108.out)) | ((with_reducible refine gate_callee (f := 9) rfl ?_); refine goesL_ (some 43) rfl rfl Tryd.func9 (by kernel_rfl) rfl #[.string (((strOfNums y106) ++ a0) ++ (strOfNums y106))] rfl (by (try simp only [List.map_toArray, List.map_cons, List.map_nil]); first | done | rfl | (simp only [List.length_drop, List.length_take]; rfl)) ?_; (with_reducible refine (Given.unq.calls (((strOfNums y106) ++ a0) ++ (strOfNums y106)) t109 true _ (Given.Tabs.below HG.out (by repeat (first | (with_reducible first | exact HB.out | apply below_alloc | apply pw_below_drewN | apply below_drew1) | exact HB.out)) (Nat.le_refl _)) A15.out).mono ?_); rintro e w22 ⟨rfl, hb⟩; refine ⟨_, rfl, ?_⟩; have n0_ := Aside0.mk (Kd.R_below (by (with_reducible repeat (first | apply Kd.R_alloc | apply Kd.R_drewN | apply Kd.R_drew)); exact HO108.out) hb); have n1_ := Aside0.mk (below_step (by repeat (first | (with_reducible first | exact HB.out | apply below_alloc | apply pw_below_drewN | apply below_drew1) | exact HB.out)) hb); clear HO108; clear HB; have HO108 := n0_; have HB := n1_; clear n0_ n1_; (try clear hb); (try clear hb2); (try clear hk); (try clear hi)) | ((with_reducible refine gate_callee (f := 10) rfl ?_); refine goesL_ (some 48) rfl rfl Tryd.func10 (by kernel_rfl) rfl #[.string a0] rfl (by (try simp only [List.map_toArray, List.map_cons, List.map_nil]); first | done | rfl | (simp only [List.length_drop, List.length_take]; rfl)) ?_; (with_reducible refine (spec_UTF8.calls k2 a0 t111 _ A16.out).mono ?_); rintro e w' ⟨rfl, ⟨nd, rfl⟩⟩; refine ⟨_, rfl, ?_⟩))
                        go_ret
                        exact ⟨by first | rfl | (simp [errW_none, errW_some] <;> rfl) | (simp [*, errW_none, errW_some] <;> rfl), by repeat (first | (with_reducible first | exact HB.out | apply below_alloc | apply pw_below_drewN | apply below_drew1) | exact HB.out)⟩
                      · replace c18 := Bool.eq_false_iff.mpr c18
                        subst c18
                        have H1 : (some true) = some r := by rw [if_neg (show ¬ (false = true) by decide)] at H; exact H
                        clear H
                        have H := H1
                        clear H1
                        obtain rfl := Option.some.inj H
                        go_wp2_with (first | ((with_reducible refine gate_dst (N := 35) rfl ?_); refine Kd.R_lit (Kd.int .u8) _ 5 ?hg (N := 35) ?hd (xs := ([x5_3] : List Int)) (inner := [.int .u8 x5_3]) (ok := fun _ => True) (okp := fun _ => True) ?hr ?hp (fun _ hk => hk) trivial (Below.refl _ _) (Nat.le_refl _) (by simp) ?_; (case hd => rfl); (case hg => rfl); (case hr => first | (go_simp; done) | (go_simp; rfl)); (case hp => exact (Reps.one (show Kd.M (Kd.int .u8) _ _ _ x5_3 [.int .u8 x5_3] from rfl) (Reps.none _ _))); intro v107 w23 ho24 hb hg_ hnew_; clear hg_ hnew_; (first | rw [← Ny106.out] at ho24 | (simp only [Int.reduceToNat] at ho24; rw [← Ny106.out] at ho24)); have n0_ := Aside0.mk (Kd.R_lower ho24 (below_size (by repeat (first | (with_reducible first | exact HB.out | apply below_alloc | apply pw_below_drewN | apply below_drew1) | exact HB.out)))); have n1_ := Aside0.mk (below_step (by repeat (first | (with_reducible first | exact HB.out | apply below_alloc | apply pw_below_drewN | apply below_drew1) | exact HB.out)) hb); clear HB; have HO108 := n0_; have HB := n1_; clear n0_ n1_; clear hb ho24; have hcv25 := own_string (P := Tryd.prog) Tryd.underlying26 Tryd.underlying5 Tryd.underlying9 (Kd.own_of_R HO108.out)) | ((with_reducible refine gate_callee (f := 9) rfl ?_); refine goesL_ (some 43) rfl rfl Tryd.func9 (by kernel_rfl) rfl #[.string (((strOfNums y106) ++ a0) ++ (strOfNums y106))] rfl (by (try simp only [List.map_toArray, List.map_cons, List.map_nil]); first | done | rfl | (simp only [List.length_drop, List.length_take]; rfl)) ?_; (with_reducible refine (Given.unq.calls (((strOfNums y106) ++ a0) ++ (strOfNums y106)) t109 false _ (Given.Tabs.below HG.out (by repeat (first | (with_reducible first | exact HB.out | apply below_alloc | apply pw_below_drewN | apply below_drew1) | exact HB.out)) (Nat.le_refl _)) A15.out).mono ?_); rintro e w26 ⟨rfl, hb⟩; refine ⟨_, rfl, ?_⟩; have n0_ := Aside0.mk (Kd.R_below (by (with_reducible repeat (first | apply Kd.R_alloc | apply Kd.R_drewN | apply Kd.R_drew)); exact HO108.out) hb); have n1_ := Aside0.mk (below_step (by repeat (first | (with_reducible first | exact HB.out | apply below_alloc | apply pw_below_drewN | apply below_drew1) | exact HB.out)) hb); clear HO108; clear HB; have HO108 := n0_; have HB := n1_; clear n0_ n1_; (try clear hb); (try clear hb2); (try clear hk); (try clear hi)) | ((with_reducible refine gate_callee (f := 10) rfl ?_); refine goesL_ (some 48) rfl rfl Tryd.func10 (by kernel_rfl) rfl #[.string a0] rfl (by (try simp only [List.map_toArray, List.map_cons, List.map_nil]); first | done | rfl | (simp only [List.length_drop, List.length_take]; rfl)) ?_; (with_reducible refine (spec_UTF8.calls k2 a0 t111 _ A16.out).mono ?_); rintro e w' ⟨rfl, ⟨nd, rfl⟩⟩; refine ⟨_, rfl, ?_⟩))
                        go_ret
                        exact ⟨by first | rfl | (simp [errW_none, errW_some] <;> rfl) | (simp [*, errW_none, errW_some] <;> rfl), by repeat (first | (with_reducible first | exact HB.out | apply below_alloc | apply pw_below_drewN | apply below_drew1) | exact HB.out)⟩
                    · rw [if_neg c17] at H
                      have c17b0 : (t110 == t111) = false := by simpa using c17
                      (try (have c17b1 : decide (t110 = t111) = false := by simpa using c17))
                      (try (have c17b2 : (t110 == t111) = false := by simpa using c17))
                      (try (have c17b3 : ¬ (t110 = t111) := by simpa using c17))
                      clear c17
                      obtain rfl := Option.some.inj H
                      go_wp2_with (first | ((with_reducible refine gate_dst (N := 35) rfl ?_); refine Kd.R_lit (Kd.int .u8) _ 5 ?hg (N := 35) ?hd (xs := ([x5_3] : List Int)) (inner := [.int .u8 x5_3]) (ok := fun _ => True) (okp := fun _ => True) ?hr ?hp (fun _ hk => hk) trivial (Below.refl _ _) (Nat.le_refl _) (by simp) ?_; (case hd => rfl); (case hg => rfl); (case hr => first | (go_simp; done) | (go_simp; rfl)); (case hp => exact (Reps.one (show Kd.M (Kd.int .u8) _ _ _ x5_3 [.int .u8 x5_3] from rfl) (Reps.none _ _))); intro v107 w27 ho28 hb hg_ hnew_; clear hg_ hnew_; (first | rw [← Ny106.out] at ho28 | (simp only [Int.reduceToNat] at ho28; rw [← Ny106.out] at ho28)); have n0_ := Aside0.mk (Kd.R_lower ho28 (below_size (by repeat (first | (with_reducible first | exact HB.out | apply below_alloc | apply pw_below_drewN | apply below_drew1) | exact HB.out)))); have n1_ := Aside0.mk (below_step (by repeat (first | (with_reducible first | exact HB.out | apply below_alloc | apply pw_below_drewN | apply below_drew1) | exact HB.out)) hb); clear HB; have HO108 := n0_; have HB := n1_; clear n0_ n1_; clear hb ho28; have hcv29 := own_string (P := Tryd.prog) Tryd.underlying26 Tryd.underlying5 Tryd.underlying9 (Kd.own_of_R HO108.out)) | ((with_reducible refine gate_callee (f := 9) rfl ?_); refine goesL_ (some 43) rfl rfl Tryd.func9 (by kernel_rfl) rfl #[.string (((strOfNums y106) ++ a0) ++ (strOfNums y106))] rfl (by (try simp only [List.map_toArray, List.map_cons, List.map_nil]); first | done | rfl | (simp only [List.length_drop, List.length_take]; rfl)) ?_; (with_reducible refine (Given.unq.calls (((strOfNums y106) ++ a0) ++ (strOfNums y106)) t109 t110 _ (Given.Tabs.below HG.out (by repeat (first | (with_reducible first | exact HB.out | apply below_alloc | apply pw_below_drewN | apply below_drew1) | exact HB.out)) (Nat.le_refl _)) A15.out).mono ?_); rintro e w30 ⟨rfl, hb⟩; refine ⟨_, rfl, ?_⟩; have n0_ := Aside0.mk (Kd.R_below (by (with_reducible repeat (first | apply Kd.R_alloc | apply Kd.R_drewN | apply Kd.R_drew)); exact HO108.out) hb); have n1_ := Aside0.mk (below_step (by repeat (first | (with_reducible first | exact HB.out | apply below_alloc | apply pw_below_drewN | apply below_drew1) | exact HB.out)) hb); clear HO108; clear HB; have HO108 := n0_; have HB := n1_; clear n0_ n1_; (try clear hb); (try clear hb2); (try clear hk); (try clear hi)) | ((with_reducible refine gate_callee (f := 10) rfl ?_); refine goesL_ (some 48) rfl rfl Tryd.func10 (by kernel_rfl) rfl #[.string a0] rfl (by (try simp only [List.map_toArray, List.map_cons, List.map_nil]); first | done | rfl | (simp only [List.length_drop, List.length_take]; rfl)) ?_; (with_reducible refine (spec_UTF8.calls k2 a0 t111 _ A16.out).mono ?_); rintro e w' ⟨rfl, ⟨nd, rfl⟩⟩; refine ⟨_, rfl, ?_⟩))
                      go_ret
                      exact ⟨by first | rfl | (simp [errW_none, errW_some] <;> rfl) | (simp [*, errW_none, errW_some] <;> rfl), by repeat (first | (with_reducible first | exact HB.out | apply below_alloc | apply pw_below_drewN | apply below_drew1) | exact HB.out)⟩
                  · rw [if_neg c14] at H
                    exact absurd H (by simp)
                · rw [if_neg c13] at H
                  exact absurd H (by simp)

/-- THE ONE PURE STATEMENT of laws_FnVtUnquotePlain: yours. -/
def laws_FnVtUnquotePlain.Pure : Prop := ∀ (a0 : ByteArray) (a1 : Bool), a0.size ≤ 140737488351232 → ∃ k, laws_FnVtUnquotePlain.f k a0 a1 = some true
theorem laws_FnVtUnquotePlain.walk (P : laws_FnVtUnquotePlain.Pure) (a0 : ByteArray) (a1 : Bool) (w : World) (hG : Given.Tabs w) (w0 : a0.size ≤ 140737488351232) :
    Calls Tryd.prog 4 #[.string a0, .bool a1] w fun e w' => e = .returned (.bool true) ∧ Below w.heap.size w w' := by
  obtain ⟨k, h⟩ := P a0 a1 w0
  refine (laws_FnVtUnquotePlain.calls k a0 a1 true w hG h).mono ?_
  rintro e w' ⟨rfl, hd⟩
  exact ⟨rfl, hd⟩

end Go.Proofs.YtgljkbhjbefikaaDoor.PUq

-- Written by a program of this session (wip/tools/myprint.py) for this claim.
import Derived.Test.YthkblpbabcibcaaPSgx0
namespace Go.Proofs.Ythkblpbabcibcaa.PSg
open Go.RowKit Go.Proofs.YthkblpbabcibcaaW.PrintWords Go.Proofs.YthkblpbabcibcaaW.PrintLast Go.Proofs.YthkblpbabcibcaaW.PrintMore
attribute [local go_sem] max2_int min2_int max_two min_two max_three min_three max_four min_four   -- for this text's walks alone
set_option linter.unusedVariables false
set_option linter.unusedSimpArgs false

/-! ### laws_sgLeft: function 9 -/
mutual
def laws_sgLeft.l0 : Nat → ByteArray → List Int → Int → Option (Bool)
  | 0, _, _, _ => none
  | k + 1, x0, x3, x4 => if x4 < (x0.size : Int) then (if 0 ≤ x4 then (if (bt x0 x4) = 40 then (laws_sgLeft.j1 k x0 x3 x4 (bt x0 x4) ((bt x0 x4) == 40)) else (laws_sgLeft.j1 k x0 x3 x4 (bt x0 x4) ((bt x0 x4) == 123))) else (none)) else (some false)
def laws_sgLeft.j1 : Nat → ByteArray → List Int → Int → Int → Bool → Option (Bool)
  | 0, _, _, _, _, _ => none
  | k + 1, x0, x3, x4, x13, x14 => if x14 = true then (if 0 ≤ x4 then (if x4 < (x0.size : Int) then (if x3.length < 140737488355328 then ((some (x3 ++ [bt x0 x4] : List Int)).bind fun y112 => (if (wrap64 (x4 + 1)) < (x0.size : Int) then (if x4 ≤ (wrap64 (x4 + 2)) then (if (wrap64 (x4 + 2)) ≤ (x0.size : Int) then (if (x0.extract (x4 : Int).toNat ((wrap64 (x4 + 2)) : Int).toNat).toList = ([40, 41] : List UInt8) then (some true) else (if (x0.extract (x4 : Int).toNat ((wrap64 (x4 + 2)) : Int).toNat).toList = ([123, 118] : List UInt8) then (some true) else (laws_sgLeft.l0 k x0 y112 (wrap64 (x4 + 1))))) else (none)) else (none)) else (laws_sgLeft.l0 k x0 y112 (wrap64 (x4 + 1))))) else (none)) else (none)) else (none)) else (if x13 = 41 then (laws_sgLeft.j2 k x0 x3 x4 (x13 == 41)) else (laws_sgLeft.j2 k x0 x3 x4 (x13 == 125)))
def laws_sgLeft.j2 : Nat → ByteArray → List Int → Int → Bool → Option (Bool)
  | 0, _, _, _, _ => none
  | k + 1, x0, x3, x4, x44 => if x44 = true then (if (x3.length : Int) = 0 then (laws_sgLeft.l0 k x0 x3 (wrap64 (x4 + 1))) else (if 0 ≤ (wrap64 ((x3.length : Int) - 1)) then (if (wrap64 ((x3.length : Int) - 1)) < (x3.length : Int) then (if 0 ≤ x4 then (if x4 < (x0.size : Int) then (if (((rd x3 (wrap64 ((x3.length : Int) - 1))) == 40) != ((bt x0 x4) == 41)) = true then (some true) else (if (wrap64 ((x3.length : Int) - 1)) ≤ (x3.length : Int) then (laws_sgLeft.l0 k x0 (x3.take ((wrap64 ((x3.length : Int) - 1)) : Int).toNat) (wrap64 (x4 + 1))) else (none))) else (none)) else (none)) else (none)) else (none))) else (laws_sgLeft.l0 k x0 x3 (wrap64 (x4 + 1)))
end
def laws_sgLeft.f (k : Nat) (a0 : ByteArray) : Option (Bool) := laws_sgLeft.l0 k a0 ([] : List Int) 0
theorem laws_sgLeft.mono_l : ∀ k, (∀ y0 y1 y2, LeO (laws_sgLeft.l0 k y0 y1 y2) (laws_sgLeft.l0 (k + 1) y0 y1 y2)) ∧ (∀ y0 y1 y2 y3 y4, LeO (laws_sgLeft.j1 k y0 y1 y2 y3 y4) (laws_sgLeft.j1 (k + 1) y0 y1 y2 y3 y4)) ∧ (∀ y0 y1 y2 y3, LeO (laws_sgLeft.j2 k y0 y1 y2 y3) (laws_sgLeft.j2 (k + 1) y0 y1 y2 y3))
  | 0 => ⟨fun _ _ _ r h => by simp [laws_sgLeft.l0] at h, fun _ _ _ _ _ r h => by simp [laws_sgLeft.j1] at h, fun _ _ _ _ r h => by simp [laws_sgLeft.j2] at h⟩
  | k + 1 => by
    obtain ⟨ih0, ih1, ih2⟩ := laws_sgLeft.mono_l k
    refine ⟨?_, ?_, ?_⟩
    · intro y0 y1 y2
      unfold laws_sgLeft.l0
      repeat' first
      | (with_reducible exact ih0 _ _ _)
      | (with_reducible exact ih1 _ _ _ _ _)
      | (with_reducible exact ih2 _ _ _ _)
      | (with_reducible exact LeO.refl _)
      | (with_reducible exact LeO.none _)
      | (with_reducible refine LeO.ite ?_ ?_)
      | (with_reducible refine LeO.bind ?_ (fun _ => ?_))
      | exact ih0 _ _ _
      | exact ih1 _ _ _ _ _
      | exact ih2 _ _ _ _
      | exact LeO.none _
      | refine LeO.ite ?_ ?_
      | refine LeO.bind ?_ (fun _ => ?_)
    · intro y0 y1 y2 y3 y4
      unfold laws_sgLeft.j1
      repeat' first
      | (with_reducible exact ih0 _ _ _)
      | (with_reducible exact ih1 _ _ _ _ _)
      | (with_reducible exact ih2 _ _ _ _)
      | (with_reducible exact LeO.refl _)
      | (with_reducible exact LeO.none _)
      | (with_reducible refine LeO.ite ?_ ?_)
      | (with_reducible refine LeO.bind ?_ (fun _ => ?_))
      | exact ih0 _ _ _
      | exact ih1 _ _ _ _ _
      | exact ih2 _ _ _ _
      | exact LeO.none _
      | refine LeO.ite ?_ ?_
      | refine LeO.bind ?_ (fun _ => ?_)
    · intro y0 y1 y2 y3
      unfold laws_sgLeft.j2
      repeat' first
      | (with_reducible exact ih0 _ _ _)
      | (with_reducible exact ih1 _ _ _ _ _)
      | (with_reducible exact ih2 _ _ _ _)
      | (with_reducible exact LeO.refl _)
      | (with_reducible exact LeO.none _)
      | (with_reducible refine LeO.ite ?_ ?_)
      | (with_reducible refine LeO.bind ?_ (fun _ => ?_))
      | exact ih0 _ _ _
      | exact ih1 _ _ _ _ _
      | exact ih2 _ _ _ _
      | exact LeO.none _
      | refine LeO.ite ?_ ?_
      | refine LeO.bind ?_ (fun _ => ?_)
theorem laws_sgLeft.mono : ∀ a0 k, LeO (laws_sgLeft.f k a0) (laws_sgLeft.f (k + 1) a0) := by
  intro a0 k
  obtain ⟨ih0, ih1, ih2⟩ := laws_sgLeft.mono_l k
  unfold laws_sgLeft.f
  repeat' first
      | (with_reducible exact ih0 _ _ _)
      | (with_reducible exact ih1 _ _ _ _ _)
      | (with_reducible exact ih2 _ _ _ _)
      | (with_reducible exact LeO.refl _)
      | (with_reducible exact LeO.none _)
      | (with_reducible refine LeO.ite ?_ ?_)
      | (with_reducible refine LeO.bind ?_ (fun _ => ?_))
      | exact ih0 _ _ _
      | exact ih1 _ _ _ _ _
      | exact ih2 _ _ _ _
      | exact LeO.none _
      | refine LeO.ite ?_ ?_
      | refine LeO.bind ?_ (fun _ => ?_)
set_option maxHeartbeats 8000000 in
set_option maxRecDepth 100000 in
theorem laws_sgLeft.calls (k : Nat) (a0 : ByteArray) (r : Bool) (w : World) (h : laws_sgLeft.f k a0 = some r) :
    Calls Try.prog 9 #[.string a0] w fun e w' => e = .returned (.bool r) ∧ Below w.heap.size w w' := by
  have HB := Aside0.mk (Below.refl w.heap.size w)
  have H : (laws_sgLeft.l0 k a0 ([] : List Int) 0) = some r := h
  clear h
  have H' := Aside0.mk H
  clear H
  go_enter Try.func9, Try.ntmps9
  go_wp2
  repeat (go_quiet (fail); try go_wp2)
  go_loopg [3, 4] k (fun kq v3 v4 w' => ∃ (x3_1 : List Int) (x4_1 : Int), v4 = .int .i64 x4_1 ∧ Aside0 (laws_sgLeft.l0 kq a0 x3_1 x4_1 = some r) ∧ Aside0 (kq ≤ k) ∧ Aside0 (Kd.R (Kd.int .u8) 5 w' w.heap.size (fun _ => True) v3 x3_1) ∧ Aside0 (Below w.heap.size w w'))
  case atStart => exact ⟨(([] : List Int)), (0), (by first | rfl | (simp; done) | (simp [*]; done)), H', ⟨Nat.le_refl _⟩, ⟨by first | exact Kd.R_nil _ _ _ _ _ | exact Kd.N_nil _ _ _ _ _ | exact Kd.V_nil _ _ _ _ _ | exact Kd.Q_nil _ _ _ _ _ | exact Kd.S_nil _ _ _ _ _⟩, ⟨by repeat (first | (with_reducible first | exact HB.out | apply below_alloc | apply pw_below_drewN | apply below_drew1) | exact HB.out)⟩⟩
  case round =>
    clear H'
    obtain ⟨x3_1, x4_1, rfl, HA, HK1, HO_3, HB⟩ := hrel
    cases gk with
    | zero => exact absurd HA.out (by simp [laws_sgLeft.l0])
    | succ k1 =>
      have H := HA.out
      clear HA
      simp only [laws_sgLeft.l0] at H
      by_cases c2 : x4_1 < (a0.size : Int)
      · rw [if_pos c2] at H
        have c2b0 : decide (x4_1 < (a0.size : Int)) = true := decide_eq_true c2
        clear c2
        by_cases c3 : 0 ≤ x4_1
        · rw [if_pos c3] at H
          have c3b0 : decide (0 ≤ x4_1) = true := decide_eq_true c3
          clear c3
          have HC5 := Aside0.mk H
          clear H
          have p4 : 0 ≤ (x4_1 : Int) := of_decide_eq_true (by first | (with_reducible assumption) | assumption)
          have q4 : x4_1 < (a0.size : Int) := of_decide_eq_true (by first | (with_reducible assumption) | assumption)
          have hx4 := bt_at a0 x4_1
          replace p4 := eq_true p4
          replace q4 := eq_true q4
          go_upto_if 14 with (fail)
          repeat (go_quiet (fail); go_upto_if 14 with (fail))
          go_cut [14] (fun v14 wc => ∃ (kq : Nat) (x14_4 : Bool), v14 = .bool x14_4 ∧ Aside0 (laws_sgLeft.j1 kq a0 x3_1 x4_1 (bt a0 x4_1) x14_4 = some r) ∧ Aside0 (kq ≤ k1) ∧ Aside0 (Kd.R (Kd.int .u8) 5 wc w.heap.size (fun _ => True) u3 x3_1) ∧ Aside0 (Below w.heap.size w wc))
          case first =>
            have H := HC5.out
            clear HC5
            by_cases c6 : (bt a0 x4_1) = 40
            · rw [if_pos c6] at H
              have c6b0 : ((bt a0 x4_1) == 40) = true := beq_iff_eq.mpr c6
              have c6b1 : ((bt a0 x4_1) != 40) = false := bne_eq_false_iff_eq.mpr c6
              clear c6
              (first | rw [c6b0] | (simp only [i64_w, i32_w]; rw [c6b0]) | skip)
              have H' := Aside0.mk H
              clear H
              go_wp2
              repeat (go_quiet (fail); try go_wp2)
              go_meet
              case rel => exact ⟨_, (((bt a0 x4_1) == 40)), (by first | rfl | (simp; done) | (simp [*]; done)), H', ⟨by have := HK1.out; first | omega | exact Nat.le_refl _⟩, ⟨by (with_reducible repeat (first | apply Kd.R_alloc | apply Kd.R_drewN | apply Kd.R_drew)); exact HO_3.out⟩, ⟨by repeat (first | (with_reducible first | exact HB.out | apply below_alloc | apply pw_below_drewN | apply below_drew1) | exact HB.out)⟩⟩
            · rw [if_neg c6] at H
              have c6b0 : ((bt a0 x4_1) == 40) = false := beq_eq_false_iff_ne.mpr c6
              have c6b1 : ((bt a0 x4_1) != 40) = true := bne_iff_ne.mpr c6
              (first | rw [c6b0] | (simp only [i64_w, i32_w]; rw [c6b0]) | skip)
              have H' := Aside0.mk H
              clear H
              go_wp2
              repeat (go_quiet (fail); try go_wp2)
              go_meet
              case rel => exact ⟨_, (((bt a0 x4_1) == 123)), (by first | rfl | (simp; done) | (simp [*]; done)), H', ⟨by have := HK1.out; first | omega | exact Nat.le_refl _⟩, ⟨by (with_reducible repeat (first | apply Kd.R_alloc | apply Kd.R_drewN | apply Kd.R_drew)); exact HO_3.out⟩, ⟨by repeat (first | (with_reducible first | exact HB.out | apply below_alloc | apply pw_below_drewN | apply below_drew1) | exact HB.out)⟩⟩
          case rest =>
            clear HC5
            try clear c2
            try clear c2b0
            try clear p2
            try clear c3
            try clear c3b0
            try clear p4
            try clear q4
            try clear hx4
            try clear c6
            try clear c6b0
            try clear c6b1
            try clear p4
            try clear q4
            obtain ⟨kq, x14_4, rfl, HA, HJ4, HO_3, HB⟩ := hcut
            cases kq with
            | zero => exact absurd HA.out (by simp [laws_sgLeft.j1])
            | succ kj4 =>
              have H := HA.out
              clear HA
              simp only [laws_sgLeft.j1] at H
              by_cases c7 : x14_4 = true
              · subst c7
                have H1 : (if 0 ≤ x4_1 then (if x4_1 < (a0.size : Int) then (if x3_1.length < 140737488355328 then ((some (x3_1 ++ [bt a0 x4_1] : List Int)).bind fun y112 => (if (wrap64 (x4_1 + 1)) < (a0.size : Int) then (if x4_1 ≤ (wrap64 (x4_1 + 2)) then (if (wrap64 (x4_1 + 2)) ≤ (a0.size : Int) then (if (a0.extract (x4_1 : Int).toNat ((wrap64 (x4_1 + 2)) : Int).toNat).toList = ([40, 41] : List UInt8) then (some true) else (if (a0.extract (x4_1 : Int).toNat ((wrap64 (x4_1 + 2)) : Int).toNat).toList = ([123, 118] : List UInt8) then (some true) else (laws_sgLeft.l0 kj4 a0 y112 (wrap64 (x4_1 + 1))))) else (none)) else (none)) else (laws_sgLeft.l0 kj4 a0 y112 (wrap64 (x4_1 + 1))))) else (none)) else (none)) else (none)) = some r := by rw [if_pos rfl] at H; exact H
                clear H
                have H := H1
                clear H1
                by_cases c8 : 0 ≤ x4_1
                · rw [if_pos c8] at H
                  have c8b0 : decide (0 ≤ x4_1) = true := decide_eq_true c8
                  clear c8
                  by_cases c9 : x4_1 < (a0.size : Int)
                  · rw [if_pos c9] at H
                    have c9b0 : decide (x4_1 < (a0.size : Int)) = true := decide_eq_true c9
                    clear c9
                    by_cases c11 : x3_1.length < 140737488355328
                    · rw [if_pos c11] at H
                      have LMc11 := Aside0.mk c11
                      clear c11
                      obtain ⟨y112, hy112⟩ : ∃ y_ : List Int, y_ = (x3_1 ++ [bt a0 x4_1]) := ⟨_, rfl⟩
                      replace H : (if (wrap64 (x4_1 + 1)) < (a0.size : Int) then (if x4_1 ≤ (wrap64 (x4_1 + 2)) then (if (wrap64 (x4_1 + 2)) ≤ (a0.size : Int) then (if (a0.extract (x4_1 : Int).toNat ((wrap64 (x4_1 + 2)) : Int).toNat).toList = ([40, 41] : List UInt8) then (some true) else (if (a0.extract (x4_1 : Int).toNat ((wrap64 (x4_1 + 2)) : Int).toNat).toList = ([123, 118] : List UInt8) then (some true) else (laws_sgLeft.l0 kj4 a0 y112 (wrap64 (x4_1 + 1))))) else (none)) else (none)) else (laws_sgLeft.l0 kj4 a0 y112 (wrap64 (x4_1 + 1)))) = some r := by first | (rw [hy112]; with_reducible exact H) | (have H2_ := (Option.bind_some _ _).symm.trans H; rw [hy112]; with_reducible exact H2_) | (have H2_ := (Option.bind_some _ _).symm.trans H; with_reducible exact H2_) | with_reducible exact H | (rw [hy112]; exact H) | exact H
                      have Ny112 := Aside0.mk hy112
                      clear hy112
                      by_cases c12 : (wrap64 (x4_1 + 1)) < (a0.size : Int)
                      · rw [if_pos c12] at H
                        have c12b0 : decide ((wrap64 (x4_1 + 1)) < (a0.size : Int)) = true := decide_eq_true c12
                        clear c12
                        have c13b0 := eq_true (of_decide_eq_true (by first | (with_reducible assumption) | assumption) : 0 ≤ x4_1)
                        by_cases c14 : x4_1 ≤ (wrap64 (x4_1 + 2))
                        · rw [if_pos c14] at H
                          have c14b0 := eq_true c14
                          have c14b1 : decide (x4_1 ≤ (wrap64 (x4_1 + 2))) = true := decide_eq_true c14
                          by_cases c15 : (wrap64 (x4_1 + 2)) ≤ (a0.size : Int)
                          · rw [if_pos c15] at H
                            have c15b0 := eq_true c15
                            have c15b1 : decide ((wrap64 (x4_1 + 2)) ≤ (a0.size : Int)) = true := decide_eq_true c15
                            by_cases c16 : (a0.extract (x4_1 : Int).toNat ((wrap64 (x4_1 + 2)) : Int).toNat).toList = ([40, 41] : List UInt8)
                            · rw [if_pos c16] at H
                              have c16b0 : ((a0.extract (x4_1 : Int).toNat ((wrap64 (x4_1 + 2)) : Int).toNat).toList == ([40, 41] : List UInt8)) = true := beq_iff_eq.mpr c16
                              have c16b1 : ((a0.extract (x4_1 : Int).toNat ((wrap64 (x4_1 + 2)) : Int).toNat).toList != ([40, 41] : List UInt8)) = false := bne_eq_false_iff_eq.mpr c16
                              clear c16
                              obtain rfl := Option.some.inj H
                              have p10 : 0 ≤ (x4_1 : Int) := of_decide_eq_true (by first | (with_reducible assumption) | assumption)
                              have q10 : x4_1 < (a0.size : Int) := of_decide_eq_true (by first | (with_reducible assumption) | assumption)
                              have hx10 := bt_at a0 x4_1
                              replace p10 := eq_true p10
                              replace q10 := eq_true q10
                              go_wp2_with (first | ((with_reducible refine gate_builtin (b := .append) (xs := #[.tmp 17, .tmp 21]) rfl ?_); at_builtin; refine Kd.R_append (Kd.int .u8) (w0 := w) w.heap.size rfl (.tmp 17) (.tmp 21) 28 5 (.int .u8 0) 1 rfl Try.underlying28 info5 rfl (by decide) (by omega) u3 x3_1 (bt a0 x4_1) [.int .u8 (bt a0 x4_1)] (fun _ => True) (fun _ => False) rfl rfl ?aP (fun _ hk => hk.elim) ?aF ?aO ?aB ?aS ?aL ?_; (case aP => exact rfl); (case aB => exact (by repeat (first | (with_reducible first | exact HB.out | apply below_alloc | apply pw_below_drewN | apply below_drew1) | exact HB.out))); (case aF => exact (fun _ _ => trivial)); (case aO => exact (by (with_reducible repeat (first | apply Kd.R_alloc | apply Kd.R_drewN | apply Kd.R_drew)); exact HO_3.out)); (case aS => exact (below_size (by repeat (first | (with_reducible first | exact HB.out | apply below_alloc | apply pw_below_drewN | apply below_drew1) | exact HB.out)))); (case aL => have := LMc11.out; omega); intro v113 w17 ho hb hg hat; rw [← Ny112.out] at ho; have n0_ := Aside0.mk (hb); have n1_ := Aside0.mk (ho); clear HB; clear HO_3; have HB := n0_; have HO114 := n1_; clear n0_ n1_; clear ho hb hg hat))
                              repeat (go_quiet (first | ((with_reducible refine gate_builtin (b := .append) (xs := #[.tmp 17, .tmp 21]) rfl ?_); at_builtin; refine Kd.R_append (Kd.int .u8) (w0 := w) w.heap.size rfl (.tmp 17) (.tmp 21) 28 5 (.int .u8 0) 1 rfl Try.underlying28 info5 rfl (by decide) (by omega) u3 x3_1 (bt a0 x4_1) [.int .u8 (bt a0 x4_1)] (fun _ => True) (fun _ => False) rfl rfl ?aP (fun _ hk => hk.elim) ?aF ?aO ?aB ?aS ?aL ?_; (case aP => exact rfl); (case aB => exact (by repeat (first | (with_reducible first | exact HB.out | apply below_alloc | apply pw_below_drewN | apply below_drew1) | exact HB.out))); (case aF => exact (fun _ _ => trivial)); (case aO => exact (by (with_reducible repeat (first | apply Kd.R_alloc | apply Kd.R_drewN | apply Kd.R_drew)); exact HO_3.out)); (case aS => exact (below_size (by repeat (first | (with_reducible first | exact HB.out | apply below_alloc | apply pw_below_drewN | apply below_drew1) | exact HB.out)))); (case aL => have := LMc11.out; omega); intro v113 w17 ho hb hg hat; rw [← Ny112.out] at ho; have n0_ := Aside0.mk (hb); have n1_ := Aside0.mk (ho); clear HB; clear HO_3; have HB := n0_; have HO114 := n1_; clear n0_ n1_; clear ho hb hg hat)); try go_wp2_with (first | ((with_reducible refine gate_builtin (b := .append) (xs := #[.tmp 17, .tmp 21]) rfl ?_); at_builtin; refine Kd.R_append (Kd.int .u8) (w0 := w) w.heap.size rfl (.tmp 17) (.tmp 21) 28 5 (.int .u8 0) 1 rfl Try.underlying28 info5 rfl (by decide) (by omega) u3 x3_1 (bt a0 x4_1) [.int .u8 (bt a0 x4_1)] (fun _ => True) (fun _ => False) rfl rfl ?aP (fun _ hk => hk.elim) ?aF ?aO ?aB ?aS ?aL ?_; (case aP => exact rfl); (case aB => exact (by repeat (first | (with_reducible first | exact HB.out | apply below_alloc | apply pw_below_drewN | apply below_drew1) | exact HB.out))); (case aF => exact (fun _ _ => trivial)); (case aO => exact (by (with_reducible repeat (first | apply Kd.R_alloc | apply Kd.R_drewN | apply Kd.R_drew)); exact HO_3.out)); (case aS => exact (below_size (by repeat (first | (with_reducible first | exact HB.out | apply below_alloc | apply pw_below_drewN | apply below_drew1) | exact HB.out)))); (case aL => have := LMc11.out; omega); intro v113 w17 ho hb hg hat; rw [← Ny112.out] at ho; have n0_ := Aside0.mk (hb); have n1_ := Aside0.mk (ho); clear HB; clear HO_3; have HB := n0_; have HO114 := n1_; clear n0_ n1_; clear ho hb hg hat)))
                              go_ret
                              exact ⟨by first | rfl | (simp [errW_none, errW_some] <;> rfl) | (simp [*, errW_none, errW_some] <;> rfl), by repeat (first | (with_reducible first | exact HB.out | apply below_alloc | apply pw_below_drewN | apply below_drew1) | exact HB.out)⟩
                            · rw [if_neg c16] at H
                              have c16b0 : ((a0.extract (x4_1 : Int).toNat ((wrap64 (x4_1 + 2)) : Int).toNat).toList == ([40, 41] : List UInt8)) = false := beq_eq_false_iff_ne.mpr c16
                              have c16b1 : ((a0.extract (x4_1 : Int).toNat ((wrap64 (x4_1 + 2)) : Int).toNat).toList != ([40, 41] : List UInt8)) = true := bne_iff_ne.mpr c16
                              have c18b0 := eq_true (of_decide_eq_true (by first | (with_reducible assumption) | assumption) : 0 ≤ x4_1)
                              have c19b0 := eq_true (of_decide_eq_true (by first | (with_reducible assumption) | assumption) : x4_1 ≤ (wrap64 (x4_1 + 2)))
                              have c20b0 := eq_true (of_decide_eq_true (by first | (with_reducible assumption) | assumption) : (wrap64 (x4_1 + 2)) ≤ (a0.size : Int))
                              by_cases c21 : (a0.extract (x4_1 : Int).toNat ((wrap64 (x4_1 + 2)) : Int).toNat).toList = ([123, 118] : List UInt8)
                              · rw [if_pos c21] at H
                                have c21b0 : ((a0.extract (x4_1 : Int).toNat ((wrap64 (x4_1 + 2)) : Int).toNat).toList == ([123, 118] : List UInt8)) = true := beq_iff_eq.mpr c21
                                have c21b1 : ((a0.extract (x4_1 : Int).toNat ((wrap64 (x4_1 + 2)) : Int).toNat).toList != ([123, 118] : List UInt8)) = false := bne_eq_false_iff_eq.mpr c21
                                clear c21
                                obtain rfl := Option.some.inj H
                                have p10 : 0 ≤ (x4_1 : Int) := of_decide_eq_true (by first | (with_reducible assumption) | assumption)
                                have q10 : x4_1 < (a0.size : Int) := of_decide_eq_true (by first | (with_reducible assumption) | assumption)
                                have hx10 := bt_at a0 x4_1
                                replace p10 := eq_true p10
                                replace q10 := eq_true q10
                                go_wp2_with (first | ((with_reducible refine gate_builtin (b := .append) (xs := #[.tmp 17, .tmp 21]) rfl ?_); at_builtin; refine Kd.R_append (Kd.int .u8) (w0 := w) w.heap.size rfl (.tmp 17) (.tmp 21) 28 5 (.int .u8 0) 1 rfl Try.underlying28 info5 rfl (by decide) (by omega) u3 x3_1 (bt a0 x4_1) [.int .u8 (bt a0 x4_1)] (fun _ => True) (fun _ => False) rfl rfl ?aP (fun _ hk => hk.elim) ?aF ?aO ?aB ?aS ?aL ?_; (case aP => exact rfl); (case aB => exact (by repeat (first | (with_reducible first | exact HB.out | apply below_alloc | apply pw_below_drewN | apply below_drew1) | exact HB.out))); (case aF => exact (fun _ _ => trivial)); (case aO => exact (by (with_reducible repeat (first | apply Kd.R_alloc | apply Kd.R_drewN | apply Kd.R_drew)); exact HO_3.out)); (case aS => exact (below_size (by repeat (first | (with_reducible first | exact HB.out | apply below_alloc | apply pw_below_drewN | apply below_drew1) | exact HB.out)))); (case aL => have := LMc11.out; omega); intro v113 w22 ho hb hg hat; rw [← Ny112.out] at ho; have n0_ := Aside0.mk (hb); have n1_ := Aside0.mk (ho); clear HB; clear HO_3; have HB := n0_; have HO114 := n1_; clear n0_ n1_; clear ho hb hg hat))
                                repeat (go_quiet (first | ((with_reducible refine gate_builtin (b := .append) (xs := #[.tmp 17, .tmp 21]) rfl ?_); at_builtin; refine Kd.R_append (Kd.int .u8) (w0 := w) w.heap.size rfl (.tmp 17) (.tmp 21) 28 5 (.int .u8 0) 1 rfl Try.underlying28 info5 rfl (by decide) (by omega) u3 x3_1 (bt a0 x4_1) [.int .u8 (bt a0 x4_1)] (fun _ => True) (fun _ => False) rfl rfl ?aP (fun _ hk => hk.elim) ?aF ?aO ?aB ?aS ?aL ?_; (case aP => exact rfl); (case aB => exact (by repeat (first | (with_reducible first | exact HB.out | apply below_alloc | apply pw_below_drewN | apply below_drew1) | exact HB.out))); (case aF => exact (fun _ _ => trivial)); (case aO => exact (by (with_reducible repeat (first | apply Kd.R_alloc | apply Kd.R_drewN | apply Kd.R_drew)); exact HO_3.out)); (case aS => exact (below_size (by repeat (first | (with_reducible first | exact HB.out | apply below_alloc | apply pw_below_drewN | apply below_drew1) | exact HB.out)))); (case aL => have := LMc11.out; omega); intro v113 w22 ho hb hg hat; rw [← Ny112.out] at ho; have n0_ := Aside0.mk (hb); have n1_ := Aside0.mk (ho); clear HB; clear HO_3; have HB := n0_; have HO114 := n1_; clear n0_ n1_; clear ho hb hg hat)); try go_wp2_with (first | ((with_reducible refine gate_builtin (b := .append) (xs := #[.tmp 17, .tmp 21]) rfl ?_); at_builtin; refine Kd.R_append (Kd.int .u8) (w0 := w) w.heap.size rfl (.tmp 17) (.tmp 21) 28 5 (.int .u8 0) 1 rfl Try.underlying28 info5 rfl (by decide) (by omega) u3 x3_1 (bt a0 x4_1) [.int .u8 (bt a0 x4_1)] (fun _ => True) (fun _ => False) rfl rfl ?aP (fun _ hk => hk.elim) ?aF ?aO ?aB ?aS ?aL ?_; (case aP => exact rfl); (case aB => exact (by repeat (first | (with_reducible first | exact HB.out | apply below_alloc | apply pw_below_drewN | apply below_drew1) | exact HB.out))); (case aF => exact (fun _ _ => trivial)); (case aO => exact (by (with_reducible repeat (first | apply Kd.R_alloc | apply Kd.R_drewN | apply Kd.R_drew)); exact HO_3.out)); (case aS => exact (below_size (by repeat (first | (with_reducible first | exact HB.out | apply below_alloc | apply pw_below_drewN | apply below_drew1) | exact HB.out)))); (case aL => have := LMc11.out; omega); intro v113 w22 ho hb hg hat; rw [← Ny112.out] at ho; have n0_ := Aside0.mk (hb); have n1_ := Aside0.mk (ho); clear HB; clear HO_3; have HB := n0_; have HO114 := n1_; clear n0_ n1_; clear ho hb hg hat)))
                                go_ret
                                exact ⟨by first | rfl | (simp [errW_none, errW_some] <;> rfl) | (simp [*, errW_none, errW_some] <;> rfl), by repeat (first | (with_reducible first | exact HB.out | apply below_alloc | apply pw_below_drewN | apply below_drew1) | exact HB.out)⟩
                              · rw [if_neg c21] at H
                                have c21b0 : ((a0.extract (x4_1 : Int).toNat ((wrap64 (x4_1 + 2)) : Int).toNat).toList == ([123, 118] : List UInt8)) = false := beq_eq_false_iff_ne.mpr c21
                                have c21b1 : ((a0.extract (x4_1 : Int).toNat ((wrap64 (x4_1 + 2)) : Int).toNat).toList != ([123, 118] : List UInt8)) = true := bne_iff_ne.mpr c21
                                have H' := Aside0.mk H
                                clear H
                                have p10 : 0 ≤ (x4_1 : Int) := of_decide_eq_true (by first | (with_reducible assumption) | assumption)
                                have q10 : x4_1 < (a0.size : Int) := of_decide_eq_true (by first | (with_reducible assumption) | assumption)
                                have hx10 := bt_at a0 x4_1
                                replace p10 := eq_true p10
                                replace q10 := eq_true q10
                                go_wp2_with (first | ((with_reducible refine gate_builtin (b := .append) (xs := #[.tmp 17, .tmp 21]) rfl ?_); at_builtin; refine Kd.R_append (Kd.int .u8) (w0 := w) w.heap.size rfl (.tmp 17) (.tmp 21) 28 5 (.int .u8 0) 1 rfl Try.underlying28 info5 rfl (by decide) (by omega) u3 x3_1 (bt a0 x4_1) [.int .u8 (bt a0 x4_1)] (fun _ => True) (fun _ => False) rfl rfl ?aP (fun _ hk => hk.elim) ?aF ?aO ?aB ?aS ?aL ?_; (case aP => exact rfl); (case aB => exact (by repeat (first | (with_reducible first | exact HB.out | apply below_alloc | apply pw_below_drewN | apply below_drew1) | exact HB.out))); (case aF => exact (fun _ _ => trivial)); (case aO => exact (by (with_reducible repeat (first | apply Kd.R_alloc | apply Kd.R_drewN | apply Kd.R_drew)); exact HO_3.out)); (case aS => exact (below_size (by repeat (first | (with_reducible first | exact HB.out | apply below_alloc | apply pw_below_drewN | apply below_drew1) | exact HB.out)))); (case aL => have := LMc11.out; omega); intro v113 w23 ho hb hg hat; rw [← Ny112.out] at ho; have n0_ := Aside0.mk (hb); have n1_ := Aside0.mk (ho); clear HB; clear HO_3; have HB := n0_; have HO114 := n1_; clear n0_ n1_; clear ho hb hg hat))
                                repeat (go_quiet (first | ((with_reducible refine gate_builtin (b := .append) (xs := #[.tmp 17, .tmp 21]) rfl ?_); at_builtin; refine Kd.R_append (Kd.int .u8) (w0 := w) w.heap.size rfl (.tmp 17) (.tmp 21) 28 5 (.int .u8 0) 1 rfl Try.underlying28 info5 rfl (by decide) (by omega) u3 x3_1 (bt a0 x4_1) [.int .u8 (bt a0 x4_1)] (fun _ => True) (fun _ => False) rfl rfl ?aP (fun _ hk => hk.elim) ?aF ?aO ?aB ?aS ?aL ?_; (case aP => exact rfl); (case aB => exact (by repeat (first | (with_reducible first | exact HB.out | apply below_alloc | apply pw_below_drewN | apply below_drew1) | exact HB.out))); (case aF => exact (fun _ _ => trivial)); (case aO => exact (by (with_reducible repeat (first | apply Kd.R_alloc | apply Kd.R_drewN | apply Kd.R_drew)); exact HO_3.out)); (case aS => exact (below_size (by repeat (first | (with_reducible first | exact HB.out | apply below_alloc | apply pw_below_drewN | apply below_drew1) | exact HB.out)))); (case aL => have := LMc11.out; omega); intro v113 w23 ho hb hg hat; rw [← Ny112.out] at ho; have n0_ := Aside0.mk (hb); have n1_ := Aside0.mk (ho); clear HB; clear HO_3; have HB := n0_; have HO114 := n1_; clear n0_ n1_; clear ho hb hg hat)); try go_wp2_with (first | ((with_reducible refine gate_builtin (b := .append) (xs := #[.tmp 17, .tmp 21]) rfl ?_); at_builtin; refine Kd.R_append (Kd.int .u8) (w0 := w) w.heap.size rfl (.tmp 17) (.tmp 21) 28 5 (.int .u8 0) 1 rfl Try.underlying28 info5 rfl (by decide) (by omega) u3 x3_1 (bt a0 x4_1) [.int .u8 (bt a0 x4_1)] (fun _ => True) (fun _ => False) rfl rfl ?aP (fun _ hk => hk.elim) ?aF ?aO ?aB ?aS ?aL ?_; (case aP => exact rfl); (case aB => exact (by repeat (first | (with_reducible first | exact HB.out | apply below_alloc | apply pw_below_drewN | apply below_drew1) | exact HB.out))); (case aF => exact (fun _ _ => trivial)); (case aO => exact (by (with_reducible repeat (first | apply Kd.R_alloc | apply Kd.R_drewN | apply Kd.R_drew)); exact HO_3.out)); (case aS => exact (below_size (by repeat (first | (with_reducible first | exact HB.out | apply below_alloc | apply pw_below_drewN | apply below_drew1) | exact HB.out)))); (case aL => have := LMc11.out; omega); intro v113 w23 ho hb hg hat; rw [← Ny112.out] at ho; have n0_ := Aside0.mk (hb); have n1_ := Aside0.mk (ho); clear HB; clear HO_3; have HB := n0_; have HO114 := n1_; clear n0_ n1_; clear ho hb hg hat)))
                                go_roundg kj4
                                case measure => have := HK1.out; have := HJ4.out; omega
                                case rel => exact ⟨(y112), (wrap64 (x4_1 + 1)), (by first | rfl | (simp; done) | (simp [*]; done)), H', ⟨by have := HK1.out; have := HJ4.out; omega⟩, ⟨by (with_reducible repeat (first | apply Kd.R_alloc | apply Kd.R_drewN | apply Kd.R_drew)); exact HO114.out⟩, ⟨by repeat (first | (with_reducible first | exact HB.out | apply below_alloc | apply pw_below_drewN | apply below_drew1) | exact HB.out)⟩⟩
                          · rw [if_neg c15] at H
                            exact absurd H (by simp)
                        · rw [if_neg c14] at H
                          exact absurd H (by simp)
                      · rw [if_neg c12] at H
                        have c12b0 : decide ((wrap64 (x4_1 + 1)) < (a0.size : Int)) = false := decide_eq_false c12
                        clear c12
                        have H' := Aside0.mk H
                        clear H
                        have p10 : 0 ≤ (x4_1 : Int) := of_decide_eq_true (by first | (with_reducible assumption) | assumption)
                        have q10 : x4_1 < (a0.size : Int) := of_decide_eq_true (by first | (with_reducible assumption) | assumption)
                        have hx10 := bt_at a0 x4_1
                        replace p10 := eq_true p10
                        replace q10 := eq_true q10
                        go_wp2_with (first | ((with_reducible refine gate_builtin (b := .append) (xs := #[.tmp 17, .tmp 21]) rfl ?_); at_builtin; refine Kd.R_append (Kd.int .u8) (w0 := w) w.heap.size rfl (.tmp 17) (.tmp 21) 28 5 (.int .u8 0) 1 rfl Try.underlying28 info5 rfl (by decide) (by omega) u3 x3_1 (bt a0 x4_1) [.int .u8 (bt a0 x4_1)] (fun _ => True) (fun _ => False) rfl rfl ?aP (fun _ hk => hk.elim) ?aF ?aO ?aB ?aS ?aL ?_; (case aP => exact rfl); (case aB => exact (by repeat (first | (with_reducible first | exact HB.out | apply below_alloc | apply pw_below_drewN | apply below_drew1) | exact HB.out))); (case aF => exact (fun _ _ => trivial)); (case aO => exact (by (with_reducible repeat (first | apply Kd.R_alloc | apply Kd.R_drewN | apply Kd.R_drew)); exact HO_3.out)); (case aS => exact (below_size (by repeat (first | (with_reducible first | exact HB.out | apply below_alloc | apply pw_below_drewN | apply below_drew1) | exact HB.out)))); (case aL => have := LMc11.out; omega); intro v113 w24 ho hb hg hat; rw [← Ny112.out] at ho; have n0_ := Aside0.mk (hb); have n1_ := Aside0.mk (ho); clear HB; clear HO_3; have HB := n0_; have HO114 := n1_; clear n0_ n1_; clear ho hb hg hat))
                        repeat (go_quiet (first | ((with_reducible refine gate_builtin (b := .append) (xs := #[.tmp 17, .tmp 21]) rfl ?_); at_builtin; refine Kd.R_append (Kd.int .u8) (w0 := w) w.heap.size rfl (.tmp 17) (.tmp 21) 28 5 (.int .u8 0) 1 rfl Try.underlying28 info5 rfl (by decide) (by omega) u3 x3_1 (bt a0 x4_1) [.int .u8 (bt a0 x4_1)] (fun _ => True) (fun _ => False) rfl rfl ?aP (fun _ hk => hk.elim) ?aF ?aO ?aB ?aS ?aL ?_; (case aP => exact rfl); (case aB => exact (by repeat (first | (with_reducible first | exact HB.out | apply below_alloc | apply pw_below_drewN | apply below_drew1) | exact HB.out))); (case aF => exact (fun _ _ => trivial)); (case aO => exact (by (with_reducible repeat (first | apply Kd.R_alloc | apply Kd.R_drewN | apply Kd.R_drew)); exact HO_3.out)); (case aS => exact (below_size (by repeat (first | (with_reducible first | exact HB.out | apply below_alloc | apply pw_below_drewN | apply below_drew1) | exact HB.out)))); (case aL => have := LMc11.out; omega); intro v113 w24 ho hb hg hat; rw [← Ny112.out] at ho; have n0_ := Aside0.mk (hb); have n1_ := Aside0.mk (ho); clear HB; clear HO_3; have HB := n0_; have HO114 := n1_; clear n0_ n1_; clear ho hb hg hat)); try go_wp2_with (first | ((with_reducible refine gate_builtin (b := .append) (xs := #[.tmp 17, .tmp 21]) rfl ?_); at_builtin; refine Kd.R_append (Kd.int .u8) (w0 := w) w.heap.size rfl (.tmp 17) (.tmp 21) 28 5 (.int .u8 0) 1 rfl Try.underlying28 info5 rfl (by decide) (by omega) u3 x3_1 (bt a0 x4_1) [.int .u8 (bt a0 x4_1)] (fun _ => True) (fun _ => False) rfl rfl ?aP (fun _ hk => hk.elim) ?aF ?aO ?aB ?aS ?aL ?_; (case aP => exact rfl); (case aB => exact (by repeat (first | (with_reducible first | exact HB.out | apply below_alloc | apply pw_below_drewN | apply below_drew1) | exact HB.out))); (case aF => exact (fun _ _ => trivial)); (case aO => exact (by (with_reducible repeat (first | apply Kd.R_alloc | apply Kd.R_drewN | apply Kd.R_drew)); exact HO_3.out)); (case aS => exact (below_size (by repeat (first | (with_reducible first | exact HB.out | apply below_alloc | apply pw_below_drewN | apply below_drew1) | exact HB.out)))); (case aL => have := LMc11.out; omega); intro v113 w24 ho hb hg hat; rw [← Ny112.out] at ho; have n0_ := Aside0.mk (hb); have n1_ := Aside0.mk (ho); clear HB; clear HO_3; have HB := n0_; have HO114 := n1_; clear n0_ n1_; clear ho hb hg hat)))
                        go_roundg kj4
                        case measure => have := HK1.out; have := HJ4.out; omega
                        case rel => exact ⟨(y112), (wrap64 (x4_1 + 1)), (by first | rfl | (simp; done) | (simp [*]; done)), H', ⟨by have := HK1.out; have := HJ4.out; omega⟩, ⟨by (with_reducible repeat (first | apply Kd.R_alloc | apply Kd.R_drewN | apply Kd.R_drew)); exact HO114.out⟩, ⟨by repeat (first | (with_reducible first | exact HB.out | apply below_alloc | apply pw_below_drewN | apply below_drew1) | exact HB.out)⟩⟩
                    · rw [if_neg c11] at H
                      exact absurd H (by simp)
                  · rw [if_neg c9] at H
                    exact absurd H (by simp)
                · rw [if_neg c8] at H
                  exact absurd H (by simp)
              · replace c7 := Bool.eq_false_iff.mpr c7
                subst c7
                have H1 : (if (bt a0 x4_1) = 41 then (laws_sgLeft.j2 kj4 a0 x3_1 x4_1 ((bt a0 x4_1) == 41)) else (laws_sgLeft.j2 kj4 a0 x3_1 x4_1 ((bt a0 x4_1) == 125))) = some r := by rw [if_neg (show ¬ (false = true) by decide)] at H; exact H
                clear H
                have H := H1
                clear H1
                have HC25 := Aside0.mk H
                clear H
                go_upto_if 44 with (fail)
                repeat (go_quiet (fail); go_upto_if 44 with (fail))
                go_cut [44] (fun v44 wc => ∃ (kq : Nat) (x44_24 : Bool), v44 = .bool x44_24 ∧ Aside0 (laws_sgLeft.j2 kq a0 x3_1 x4_1 x44_24 = some r) ∧ Aside0 (kq ≤ kj4) ∧ Aside0 (Kd.R (Kd.int .u8) 5 wc w.heap.size (fun _ => True) u3 x3_1) ∧ Aside0 (Below w.heap.size w wc))
                case first =>
                  have H := HC25.out
                  clear HC25
                  by_cases c26 : (bt a0 x4_1) = 41
                  · rw [if_pos c26] at H
                    have c26b0 : ((bt a0 x4_1) == 41) = true := beq_iff_eq.mpr c26
                    have c26b1 : ((bt a0 x4_1) != 41) = false := bne_eq_false_iff_eq.mpr c26
                    clear c26
                    (first | rw [c26b0] | (simp only [i64_w, i32_w]; rw [c26b0]) | skip)
                    have H' := Aside0.mk H
                    clear H
                    go_wp2
                    repeat (go_quiet (fail); try go_wp2)
                    go_meet
                    case rel => exact ⟨_, (((bt a0 x4_1) == 41)), (by first | rfl | (simp; done) | (simp [*]; done)), H', ⟨by have := HK1.out; have := HJ4.out; first | omega | exact Nat.le_refl _⟩, ⟨by (with_reducible repeat (first | apply Kd.R_alloc | apply Kd.R_drewN | apply Kd.R_drew)); exact HO_3.out⟩, ⟨by repeat (first | (with_reducible first | exact HB.out | apply below_alloc | apply pw_below_drewN | apply below_drew1) | exact HB.out)⟩⟩
                  · rw [if_neg c26] at H
                    have c26b0 : ((bt a0 x4_1) == 41) = false := beq_eq_false_iff_ne.mpr c26
                    have c26b1 : ((bt a0 x4_1) != 41) = true := bne_iff_ne.mpr c26
                    (first | rw [c26b0] | (simp only [i64_w, i32_w]; rw [c26b0]) | skip)
                    have H' := Aside0.mk H
                    clear H
                    go_wp2
                    repeat (go_quiet (fail); try go_wp2)
                    go_meet
                    case rel => exact ⟨_, (((bt a0 x4_1) == 125)), (by first | rfl | (simp; done) | (simp [*]; done)), H', ⟨by have := HK1.out; have := HJ4.out; first | omega | exact Nat.le_refl _⟩, ⟨by (with_reducible repeat (first | apply Kd.R_alloc | apply Kd.R_drewN | apply Kd.R_drew)); exact HO_3.out⟩, ⟨by repeat (first | (with_reducible first | exact HB.out | apply below_alloc | apply pw_below_drewN | apply below_drew1) | exact HB.out)⟩⟩
                case rest =>
                  clear HC25
                  try clear c1
                  try clear p1
                  try clear q1
                  try clear hx1
                  try clear c2
                  try clear c2b0
                  try clear p2
                  try clear c3
                  try clear c3b0
                  try clear p4
                  try clear q4
                  try clear hx4
                  try clear c6
                  try clear c6b0
                  try clear c6b1
                  try clear p6
                  try clear c7
                  try clear c8
                  try clear c8b0
                  try clear c9
                  try clear c9b0
                  try clear p10
                  try clear q10
                  try clear hx10
                  try clear c11
                  try clear c12
                  try clear c12b0
                  try clear c13
                  try clear c13b0
                  try clear c14
                  try clear c14b0
                  try clear c14b1
                  try clear c15
                  try clear c15b0
                  try clear c15b1
                  try clear c16
                  try clear c16b0
                  try clear c16b1
                  try clear c18
                  try clear c18b0
                  try clear c19
                  try clear c19b0
                  try clear c20
                  try clear c20b0
                  try clear c21
                  try clear c21b0
                  try clear c21b1
                  try clear c26
                  try clear c26b0
                  try clear c26b1
                  try clear p10
                  try clear p2
                  try clear p4
                  try clear q10
                  try clear q4
                  obtain ⟨kq, x44_24, rfl, HA, HJ24, HO_3, HB⟩ := hcut
                  cases kq with
                  | zero => exact absurd HA.out (by simp [laws_sgLeft.j2])
                  | succ kj24 =>
                    have H := HA.out
                    clear HA
                    simp only [laws_sgLeft.j2] at H
                    by_cases c27 : x44_24 = true
                    · subst c27
                      have H1 : (if (x3_1.length : Int) = 0 then (laws_sgLeft.l0 kj24 a0 x3_1 (wrap64 (x4_1 + 1))) else (if 0 ≤ (wrap64 ((x3_1.length : Int) - 1)) then (if (wrap64 ((x3_1.length : Int) - 1)) < (x3_1.length : Int) then (if 0 ≤ x4_1 then (if x4_1 < (a0.size : Int) then (if (((rd x3_1 (wrap64 ((x3_1.length : Int) - 1))) == 40) != ((bt a0 x4_1) == 41)) = true then (some true) else (if (wrap64 ((x3_1.length : Int) - 1)) ≤ (x3_1.length : Int) then (laws_sgLeft.l0 kj24 a0 (x3_1.take ((wrap64 ((x3_1.length : Int) - 1)) : Int).toNat) (wrap64 (x4_1 + 1))) else (none))) else (none)) else (none)) else (none)) else (none))) = some r := by rw [if_pos rfl] at H; exact H
                      clear H
                      have H := H1
                      clear H1
                      by_cases c28 : (x3_1.length : Int) = 0
                      · rw [if_pos c28] at H
                        have c28b0 : ((x3_1.length : Int) == 0) = true := beq_iff_eq.mpr c28
                        have c28b1 : ((x3_1.length : Int) != 0) = false := bne_eq_false_iff_eq.mpr c28
                        clear c28
                        have H' := Aside0.mk H
                        clear H
                        obtain ⟨Ao29, co29, eo29⟩ := Kd.R_slice HO_3.out
                        subst eo29
                        go_wp2
                        repeat (go_quiet (fail); try go_wp2)
                        go_roundg kj24
                        case measure => have := HK1.out; have := HJ4.out; have := HJ24.out; omega
                        case rel => exact ⟨(x3_1), (wrap64 (x4_1 + 1)), (by first | rfl | (simp; done) | (simp [*]; done)), H', ⟨by have := HK1.out; have := HJ4.out; have := HJ24.out; omega⟩, ⟨by (with_reducible repeat (first | apply Kd.R_alloc | apply Kd.R_drewN | apply Kd.R_drew)); exact HO_3.out⟩, ⟨by repeat (first | (with_reducible first | exact HB.out | apply below_alloc | apply pw_below_drewN | apply below_drew1) | exact HB.out)⟩⟩
                      · rw [if_neg c28] at H
                        have c28b0 : ((x3_1.length : Int) == 0) = false := beq_eq_false_iff_ne.mpr c28
                        have c28b1 : ((x3_1.length : Int) != 0) = true := bne_iff_ne.mpr c28
                        have c28b2 : ¬ (x3_1 = []) := fun h_ => c28 (by rw [h_]; rfl)
                        obtain ⟨ji30, hji30⟩ : ∃ j_ : Int, (wrap64 ((x3_1.length : Int) - 1)) = j_ := ⟨_, rfl⟩
                        replace H : (if 0 ≤ (ji30) then (if (ji30) < (x3_1.length : Int) then (if 0 ≤ x4_1 then (if x4_1 < (a0.size : Int) then (if (((rd x3_1 (ji30)) == 40) != ((bt a0 x4_1) == 41)) = true then (some true) else (if (ji30) ≤ (x3_1.length : Int) then (laws_sgLeft.l0 kj24 a0 (x3_1.take ((ji30) : Int).toNat) (wrap64 (x4_1 + 1))) else (none))) else (none)) else (none)) else (none)) else (none)) = some r := by first | (rw [hji30] at H; exact H) | (simp only [hji30] at H ⊢; exact H)
                        have hji30w : (IntKind.i64.wrap ((x3_1.length : Int) - 1)) = ji30 := (i64_w _).trans hji30
                        by_cases c31 : 0 ≤ (ji30)
                        · rw [if_pos c31] at H
                          have c31b0 : decide (0 ≤ (ji30)) = true := decide_eq_true c31
                          clear c31
                          by_cases c32 : (ji30) < (x3_1.length : Int)
                          · rw [if_pos c32] at H
                            have c32b0 : decide ((ji30) < (x3_1.length : Int)) = true := decide_eq_true c32
                            clear c32
                            by_cases c33 : 0 ≤ x4_1
                            · rw [if_pos c33] at H
                              have c33b0 : decide (0 ≤ x4_1) = true := decide_eq_true c33
                              clear c33
                              by_cases c34 : x4_1 < (a0.size : Int)
                              · rw [if_pos c34] at H
                                have c34b0 : decide (x4_1 < (a0.size : Int)) = true := decide_eq_true c34
                                clear c34
                                by_cases c36 : (((rd x3_1 (ji30)) == 40) != ((bt a0 x4_1) == 41)) = true
                                · rw [if_pos c36] at H
                                  have c36b0 : (((rd x3_1 (ji30)) == 40) != ((bt a0 x4_1) == 41)) = true := c36
                                  (try (have c36b1 : decide (((rd x3_1 (ji30)) == 40) = ((bt a0 x4_1) == 41)) = false := by simpa using c36))
                                  (try (have c36b2 : (((rd x3_1 (ji30)) == 40) == ((bt a0 x4_1) == 41)) = false := by simpa using c36))
                                  (try (have c36b3 : ¬ (((rd x3_1 (ji30)) == 40) = ((bt a0 x4_1) == 41)) := by simpa using c36))
                                  clear c36
                                  obtain rfl := Option.some.inj H
                                  obtain ⟨Ao37, co37, eo37⟩ := Kd.R_slice HO_3.out
                                  subst eo37
                                  have p115 : 0 ≤ ((ji30) : Int) := of_decide_eq_true (by first | (with_reducible assumption) | assumption)
                                  have q115 : (ji30) < (x3_1.length : Int) := of_decide_eq_true (by first | (with_reducible assumption) | assumption)
                                  obtain ⟨ad115, e115, hx115_0⟩ := Kd.at_int (Kd.R_reads' HO_3.out).2.2 (ji30) p115 q115
                                  cases e115
                                  replace p115 := eq_true p115
                                  replace q115 := eq_true q115
                                  have p35 : 0 ≤ (x4_1 : Int) := of_decide_eq_true (by first | (with_reducible assumption) | assumption)
                                  have q35 : x4_1 < (a0.size : Int) := of_decide_eq_true (by first | (with_reducible assumption) | assumption)
                                  have hx35 := bt_at a0 x4_1
                                  replace p35 := eq_true p35
                                  replace q35 := eq_true q35
                                  go_wp2
                                  repeat (go_quiet (fail); try go_wp2)
                                  go_ret
                                  exact ⟨by first | rfl | (simp [errW_none, errW_some] <;> rfl) | (simp only [← hji30]; first | rfl | (simp [errW_none, errW_some] <;> rfl)) | (simp [*, errW_none, errW_some] <;> rfl), by repeat (first | (with_reducible first | exact HB.out | apply below_alloc | apply pw_below_drewN | apply below_drew1) | exact HB.out)⟩
                                · rw [if_neg c36] at H
                                  have c36b0 : (((rd x3_1 (ji30)) == 40) != ((bt a0 x4_1) == 41)) = false := by simpa using c36
                                  (try (have c36b1 : decide (((rd x3_1 (ji30)) == 40) = ((bt a0 x4_1) == 41)) = true := by simpa using c36))
                                  (try (have c36b2 : (((rd x3_1 (ji30)) == 40) == ((bt a0 x4_1) == 41)) = true := by simpa using c36))
                                  clear c36
                                  by_cases c38 : (ji30) ≤ (x3_1.length : Int)
                                  · rw [if_pos c38] at H
                                    have c38b0 := eq_true c38
                                    have c38b1 : decide ((ji30) ≤ (x3_1.length : Int)) = true := decide_eq_true c38
                                    clear c38
                                    obtain ⟨y116, hy116⟩ : ∃ y_ : List Int, y_ = (x3_1.take ((ji30) : Int).toNat) := ⟨_, rfl⟩
                                    replace H : (laws_sgLeft.l0 kj24 a0 y116 (wrap64 (x4_1 + 1))) = some r := by first | (rw [hy116]; with_reducible exact H) | (have H2_ := (Option.bind_some _ _).symm.trans H; rw [hy116]; with_reducible exact H2_) | (have H2_ := (Option.bind_some _ _).symm.trans H; with_reducible exact H2_) | with_reducible exact H | (rw [hy116]; exact H) | exact H
                                    have Ny116 := Aside0.mk hy116
                                    clear hy116
                                    have H' := Aside0.mk H
                                    clear H
                                    obtain ⟨Ao39, co39, eo39⟩ := Kd.R_slice HO_3.out
                                    subst eo39
                                    have p115 : 0 ≤ ((ji30) : Int) := of_decide_eq_true (by first | (with_reducible assumption) | assumption)
                                    have q115 : (ji30) < (x3_1.length : Int) := of_decide_eq_true (by first | (with_reducible assumption) | assumption)
                                    obtain ⟨ad115, e115, hx115_0⟩ := Kd.at_int (Kd.R_reads' HO_3.out).2.2 (ji30) p115 q115
                                    cases e115
                                    replace p115 := eq_true p115
                                    replace q115 := eq_true q115
                                    have p35 : 0 ≤ (x4_1 : Int) := of_decide_eq_true (by first | (with_reducible assumption) | assumption)
                                    have q35 : x4_1 < (a0.size : Int) := of_decide_eq_true (by first | (with_reducible assumption) | assumption)
                                    have hx35 := bt_at a0 x4_1
                                    replace p35 := eq_true p35
                                    replace q35 := eq_true q35
                                    have q40 : ((ji30) : Int) ≤ ((x3_1.length : Int) : Int) := of_decide_eq_true (by first | (with_reducible assumption) | assumption)
                                    obtain ⟨i040, hi040, _, hsz40, _⟩ := info_parts info5
                                    have hcut40 := cut_to (P := Try.prog) 28 5 .i64 Try.underlying28 hi040 (some ad115) x3_1.length co39 (ji30) (of_decide_eq_true (by first | (with_reducible assumption) | assumption)) q40 (Kd.R_reads' HO_3.out).2.1
                                    have hr40 := Kd.R_take (m := ((ji30) : Int).toNat) HO_3.out (by omega)
                                    have hy40 : y116.length = ((ji30) : Int).toNat := (by rw [Ny116.out, List.length_take]; omega)
                                    rw [← Ny116.out] at hr40
                                    rw [← hy40] at hr40 hcut40
                                    clear hy40 hi040 hsz40 HO_3
                                    have HO118 := Aside0.mk hr40
                                    clear hr40
                                    replace q40 := eq_true q40
                                    go_wp2
                                    repeat (go_quiet (fail); try go_wp2)
                                    go_roundg kj24
                                    case measure => have := HK1.out; have := HJ4.out; have := HJ24.out; omega
                                    case rel => exact ⟨(y116), (wrap64 (x4_1 + 1)), (by first | rfl | (simp; done) | (simp [*]; done)), H', ⟨by have := HK1.out; have := HJ4.out; have := HJ24.out; omega⟩, ⟨by (with_reducible repeat (first | apply Kd.R_alloc | apply Kd.R_drewN | apply Kd.R_drew)); exact HO118.out⟩, ⟨by repeat (first | (with_reducible first | exact HB.out | apply below_alloc | apply pw_below_drewN | apply below_drew1) | exact HB.out)⟩⟩
                                  · rw [if_neg c38] at H
                                    exact absurd H (by simp)
                              · rw [if_neg c34] at H
                                exact absurd H (by simp)
                            · rw [if_neg c33] at H
                              exact absurd H (by simp)
                          · rw [if_neg c32] at H
                            exact absurd H (by simp)
                        · rw [if_neg c31] at H
                          exact absurd H (by simp)
                    · replace c27 := Bool.eq_false_iff.mpr c27
                      subst c27
                      have H1 : (laws_sgLeft.l0 kj24 a0 x3_1 (wrap64 (x4_1 + 1))) = some r := by rw [if_neg (show ¬ (false = true) by decide)] at H; exact H
                      clear H
                      have H := H1
                      clear H1
                      have H' := Aside0.mk H
                      clear H
                      go_wp2
                      repeat (go_quiet (fail); try go_wp2)
                      go_roundg kj24
                      case measure => have := HK1.out; have := HJ4.out; have := HJ24.out; omega
                      case rel => exact ⟨(x3_1), (wrap64 (x4_1 + 1)), (by first | rfl | (simp; done) | (simp [*]; done)), H', ⟨by have := HK1.out; have := HJ4.out; have := HJ24.out; omega⟩, ⟨by (with_reducible repeat (first | apply Kd.R_alloc | apply Kd.R_drewN | apply Kd.R_drew)); exact HO_3.out⟩, ⟨by repeat (first | (with_reducible first | exact HB.out | apply below_alloc | apply pw_below_drewN | apply below_drew1) | exact HB.out)⟩⟩
        · rw [if_neg c3] at H
          exact absurd H (by simp)
      · rw [if_neg c2] at H
        have c2b0 : decide (x4_1 < (a0.size : Int)) = false := decide_eq_false c2
        clear c2
        obtain rfl := Option.some.inj H
        go_wp2
        repeat (go_quiet (fail); try go_wp2)
        go_ret
        exact ⟨by first | rfl | (simp [errW_none, errW_some] <;> rfl) | (simp [*, errW_none, errW_some] <;> rfl), by repeat (first | (with_reducible first | exact HB.out | apply below_alloc | apply pw_below_drewN | apply below_drew1) | exact HB.out)⟩

end Go.Proofs.Ythkblpbabcibcaa.PSg

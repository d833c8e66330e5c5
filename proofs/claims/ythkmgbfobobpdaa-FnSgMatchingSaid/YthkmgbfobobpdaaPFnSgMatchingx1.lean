-- Written by a program of this session (wip/tools/myprint.py) for this claim.
import Derived.Test.YthkmgbfobobpdaaPFnSgMatchingx0
namespace Go.Proofs.Ythkmgbfobobpdaa.PFnSgMatching
open Go.RowKit Go.Proofs.YthkmgbfobobpdaaW.PrintWords Go.Proofs.YthkmgbfobobpdaaW.PrintLast Go.Proofs.YthkmgbfobobpdaaW.PrintMore
attribute [local go_sem] max2_int min2_int max_two min_two max_three min_three max_four min_four   -- for this text's walks alone
set_option linter.unusedVariables false
set_option linter.unusedSimpArgs false

/-! ### dbus_DoorMatching: function 33 -/
def dbus_DoorMatching.f (a0 : ByteArray) (a1 : Int) (a2 : Int) : Option (Int) := (Given.findMatching.f a0 a1 a2).bind fun t101 => (some t101)
set_option maxHeartbeats 8000000 in
set_option maxRecDepth 100000 in
theorem dbus_DoorMatching.calls (a0 : ByteArray) (a1 : Int) (a2 : Int) (r : Int) (w : World) (h : dbus_DoorMatching.f a0 a1 a2 = some r) :
    Calls Try.prog 33 #[.string a0, .int .i32 a1, .int .i32 a2] w fun e w' => e = .returned (.int .i64 r) ∧ Below w.heap.size w w' := by
  have HB := Aside0.mk (Below.refl w.heap.size w)
  have H : ((Given.findMatching.f a0 a1 a2).bind fun t101 => (some t101)) = some r := h
  clear h
  replace H := Option.bind_eq_some_iff.mp H
  obtain ⟨t101, A40, H⟩ := H
  replace H : (some t101) = some r := H
  have A4 := Aside0.mk A40
  clear A40
  obtain rfl := Option.some.inj H
  go_enter Try.func33, Try.ntmps33
  go_wp2_with (first | ((with_reducible refine gate_callee (f := 47) rfl ?_); refine goesL_ (some 10) rfl rfl Try.func47 (by kernel_rfl) rfl #[.string a0, .int .i32 a1, .int .i32 a2] rfl (by (try simp only [List.map_toArray, List.map_cons, List.map_nil]); first | done | rfl | (simp only [List.length_drop, List.length_take]; rfl)) ?_; (with_reducible refine (Given.findMatching.calls a0 a1 a2 t101 _ A4.out).mono ?_); rintro e w5 ⟨rfl, hb⟩; refine ⟨_, rfl, ?_⟩; have n0_ := Aside0.mk (below_step (by repeat (first | (with_reducible first | exact HB.out | apply below_alloc | apply pw_below_drewN | apply below_drew1) | exact HB.out)) hb); clear HB; have HB := n0_; clear n0_; (try clear hb); (try clear hb2); (try clear hk); (try clear hi)))
  go_ret
  exact ⟨by first | rfl | (simp [errW_none, errW_some] <;> rfl) | (simp [*, errW_none, errW_some] <;> rfl), by repeat (first | (with_reducible first | exact HB.out | apply below_alloc | apply pw_below_drewN | apply below_drew1) | exact HB.out)⟩

/-! ### impl_SgMatching: function 17 -/
def impl_SgMatching.f (a0 : ByteArray) (a1 : Int) (a2 : Int) : Option (Int) := (dbus_DoorMatching.f a0 (wrap32 (a1)) (wrap32 (a2))).bind fun t102 => (some t102)
set_option maxHeartbeats 8000000 in
set_option maxRecDepth 100000 in
theorem impl_SgMatching.calls (a0 : ByteArray) (a1 : Int) (a2 : Int) (r : Int) (w : World) (h : impl_SgMatching.f a0 a1 a2 = some r) :
    Calls Try.prog 17 #[.string a0, .int .u8 a1, .int .u8 a2] w fun e w' => e = .returned (.int .i64 r) ∧ Below w.heap.size w w' := by
  have HB := Aside0.mk (Below.refl w.heap.size w)
  have H : ((dbus_DoorMatching.f a0 (wrap32 (a1)) (wrap32 (a2))).bind fun t102 => (some t102)) = some r := h
  clear h
  replace H := Option.bind_eq_some_iff.mp H
  obtain ⟨t102, A40, H⟩ := H
  replace H : (some t102) = some r := H
  have A4 := Aside0.mk A40
  clear A40
  obtain rfl := Option.some.inj H
  go_enter Try.func17, Try.ntmps17
  go_wp2_with (first | ((with_reducible refine gate_callee (f := 33) rfl ?_); refine goesL_ (some 12) rfl rfl Try.func33 (by kernel_rfl) rfl #[.string a0, .int .i32 (wrap32 (a1)), .int .i32 (wrap32 (a2))] rfl (by (try simp only [List.map_toArray, List.map_cons, List.map_nil]); first | done | rfl | (simp only [List.length_drop, List.length_take]; rfl)) ?_; (with_reducible refine (dbus_DoorMatching.calls a0 (wrap32 (a1)) (wrap32 (a2)) t102 _ A4.out).mono ?_); rintro e w5 ⟨rfl, hb⟩; refine ⟨_, rfl, ?_⟩; have n0_ := Aside0.mk (below_step (by repeat (first | (with_reducible first | exact HB.out | apply below_alloc | apply pw_below_drewN | apply below_drew1) | exact HB.out)) hb); clear HB; have HB := n0_; clear n0_; (try clear hb); (try clear hb2); (try clear hk); (try clear hi)))
  go_ret
  exact ⟨by first | rfl | (simp [errW_none, errW_some] <;> rfl) | (simp [*, errW_none, errW_some] <;> rfl), by repeat (first | (with_reducible first | exact HB.out | apply below_alloc | apply pw_below_drewN | apply below_drew1) | exact HB.out)⟩

/-! ### laws_FnSgMatching: function 5 -/
mutual
def laws_FnSgMatching.j0 : Nat → ByteArray → Int → Int → Option (Bool)
  | 0, _, _, _ => none
  | k + 1, x0, x5, x6 => if x0.toList = ([] : List UInt8) then (laws_FnSgMatching.j1 k x0 x5 x6 true) else (if 0 < (x0.size : Int) then (if (bt x0 0) = x5 then (laws_FnSgMatching.j1 k x0 x5 x6 (decide ((x0.size : Int) > 4096))) else (laws_FnSgMatching.j1 k x0 x5 x6 true)) else (none))
def laws_FnSgMatching.j1 : Nat → ByteArray → Int → Int → Bool → Option (Bool)
  | 0, _, _, _, _ => none
  | k + 1, x0, x5, x6, x26 => if x26 = true then (some true) else (laws_FnSgMatching.l0 k x0 x5 x6 (-1) 0 0)
def laws_FnSgMatching.l0 : Nat → ByteArray → Int → Int → Int → Int → Int → Option (Bool)
  | 0, _, _, _, _, _, _ => none
  | k + 1, x0, x5, x6, x7, x8, x9 => if x9 < (x0.size : Int) then (laws_FnSgMatching.j3 k x0 x5 x6 x7 x8 x9 (decide (x7 < 0))) else (laws_FnSgMatching.j3 k x0 x5 x6 x7 x8 x9 false)
def laws_FnSgMatching.j3 : Nat → ByteArray → Int → Int → Int → Int → Int → Bool → Option (Bool)
  | 0, _, _, _, _, _, _, _ => none
  | k + 1, x0, x5, x6, x7, x8, x9, x34 => if x34 = true then (if 0 ≤ x9 then (if x9 < (x0.size : Int) then (if (bt x0 x9) = x5 then (laws_FnSgMatching.l0 k x0 x5 x6 x7 (wrap64 (x8 + 1)) (wrap64 (x9 + 1))) else (if (bt x0 x9) = x6 then (if (wrap64 (x8 - 1)) = 0 then (laws_FnSgMatching.l0 k x0 x5 x6 x9 (wrap64 (x8 - 1)) (wrap64 (x9 + 1))) else (laws_FnSgMatching.l0 k x0 x5 x6 x7 (wrap64 (x8 - 1)) (wrap64 (x9 + 1)))) else (laws_FnSgMatching.l0 k x0 x5 x6 x7 x8 (wrap64 (x9 + 1))))) else (none)) else (none)) else ((impl_SgMatching.f x0 x5 x6).bind fun t103 => (if t103 = x7 then ((impl_SgMatching.f (⟨#[40, 97, 41]⟩ : ByteArray) 40 41).bind fun t104 => (some (t104 == 2))) else (some false)))
end
def laws_FnSgMatching.f (k : Nat) (a0 : ByteArray) (a1 : Bool) : Option (Bool) := if (a0.size : Int) > 2147483647 then (some true) else (if a1 = true then (laws_FnSgMatching.j0 k a0 123 125) else (laws_FnSgMatching.j0 k a0 40 41))
theorem laws_FnSgMatching.mono_l : ∀ k, (∀ y0 y1 y2, LeO (laws_FnSgMatching.j0 k y0 y1 y2) (laws_FnSgMatching.j0 (k + 1) y0 y1 y2)) ∧ (∀ y0 y1 y2 y3, LeO (laws_FnSgMatching.j1 k y0 y1 y2 y3) (laws_FnSgMatching.j1 (k + 1) y0 y1 y2 y3)) ∧ (∀ y0 y1 y2 y3 y4 y5, LeO (laws_FnSgMatching.l0 k y0 y1 y2 y3 y4 y5) (laws_FnSgMatching.l0 (k + 1) y0 y1 y2 y3 y4 y5)) ∧ (∀ y0 y1 y2 y3 y4 y5 y6, LeO (laws_FnSgMatching.j3 k y0 y1 y2 y3 y4 y5 y6) (laws_FnSgMatching.j3 (k + 1) y0 y1 y2 y3 y4 y5 y6))
  | 0 => ⟨fun _ _ _ r h => by simp [laws_FnSgMatching.j0] at h, fun _ _ _ _ r h => by simp [laws_FnSgMatching.j1] at h, fun _ _ _ _ _ _ r h => by simp [laws_FnSgMatching.l0] at h, fun _ _ _ _ _ _ _ r h => by simp [laws_FnSgMatching.j3] at h⟩
  | k + 1 => by
    obtain ⟨ih0, ih1, ih2, ih3⟩ := laws_FnSgMatching.mono_l k
    refine ⟨?_, ?_, ?_, ?_⟩
    · intro y0 y1 y2
      unfold laws_FnSgMatching.j0
      repeat' first
      | (with_reducible exact ih0 _ _ _)
      | (with_reducible exact ih1 _ _ _ _)
      | (with_reducible exact ih2 _ _ _ _ _ _)
      | (with_reducible exact ih3 _ _ _ _ _ _ _)
      | (with_reducible exact LeO.refl _)
      | (with_reducible exact LeO.none _)
      | (with_reducible refine LeO.ite ?_ ?_)
      | (with_reducible refine LeO.bind ?_ (fun _ => ?_))
      | exact ih0 _ _ _
      | exact ih1 _ _ _ _
      | exact ih2 _ _ _ _ _ _
      | exact ih3 _ _ _ _ _ _ _
      | exact LeO.none _
      | refine LeO.ite ?_ ?_
      | refine LeO.bind ?_ (fun _ => ?_)
    · intro y0 y1 y2 y3
      unfold laws_FnSgMatching.j1
      repeat' first
      | (with_reducible exact ih0 _ _ _)
      | (with_reducible exact ih1 _ _ _ _)
      | (with_reducible exact ih2 _ _ _ _ _ _)
      | (with_reducible exact ih3 _ _ _ _ _ _ _)
      | (with_reducible exact LeO.refl _)
      | (with_reducible exact LeO.none _)
      | (with_reducible refine LeO.ite ?_ ?_)
      | (with_reducible refine LeO.bind ?_ (fun _ => ?_))
      | exact ih0 _ _ _
      | exact ih1 _ _ _ _
      | exact ih2 _ _ _ _ _ _
      | exact ih3 _ _ _ _ _ _ _
      | exact LeO.none _
      | refine LeO.ite ?_ ?_
      | refine LeO.bind ?_ (fun _ => ?_)
    · intro y0 y1 y2 y3 y4 y5
      unfold laws_FnSgMatching.l0
      repeat' first
      | (with_reducible exact ih0 _ _ _)
      | (with_reducible exact ih1 _ _ _ _)
      | (with_reducible exact ih2 _ _ _ _ _ _)
      | (with_reducible exact ih3 _ _ _ _ _ _ _)
      | (with_reducible exact LeO.refl _)
      | (with_reducible exact LeO.none _)
      | (with_reducible refine LeO.ite ?_ ?_)
      | (with_reducible refine LeO.bind ?_ (fun _ => ?_))
      | exact ih0 _ _ _
      | exact ih1 _ _ _ _
      | exact ih2 _ _ _ _ _ _
      | exact ih3 _ _ _ _ _ _ _
      | exact LeO.none _
      | refine LeO.ite ?_ ?_
      | refine LeO.bind ?_ (fun _ => ?_)
    · intro y0 y1 y2 y3 y4 y5 y6
      unfold laws_FnSgMatching.j3
      repeat' first
      | (with_reducible exact ih0 _ _ _)
      | (with_reducible exact ih1 _ _ _ _)
      | (with_reducible exact ih2 _ _ _ _ _ _)
      | (with_reducible exact ih3 _ _ _ _ _ _ _)
      | (with_reducible exact LeO.refl _)
      | (with_reducible exact LeO.none _)
      | (with_reducible refine LeO.ite ?_ ?_)
      | (with_reducible refine LeO.bind ?_ (fun _ => ?_))
      | exact ih0 _ _ _
      | exact ih1 _ _ _ _
      | exact ih2 _ _ _ _ _ _
      | exact ih3 _ _ _ _ _ _ _
      | exact LeO.none _
      | refine LeO.ite ?_ ?_
      | refine LeO.bind ?_ (fun _ => ?_)
theorem laws_FnSgMatching.mono : ∀ a0 a1 k, LeO (laws_FnSgMatching.f k a0 a1) (laws_FnSgMatching.f (k + 1) a0 a1) := by
  intro a0 a1 k
  obtain ⟨ih0, ih1, ih2, ih3⟩ := laws_FnSgMatching.mono_l k
  unfold laws_FnSgMatching.f
  repeat' first
      | (with_reducible exact ih0 _ _ _)
      | (with_reducible exact ih1 _ _ _ _)
      | (with_reducible exact ih2 _ _ _ _ _ _)
      | (with_reducible exact ih3 _ _ _ _ _ _ _)
      | (with_reducible exact LeO.refl _)
      | (with_reducible exact LeO.none _)
      | (with_reducible refine LeO.ite ?_ ?_)
      | (with_reducible refine LeO.bind ?_ (fun _ => ?_))
      | exact ih0 _ _ _
      | exact ih1 _ _ _ _
      | exact ih2 _ _ _ _ _ _
      | exact ih3 _ _ _ _ _ _ _
      | exact LeO.none _
      | refine LeO.ite ?_ ?_
      | refine LeO.bind ?_ (fun _ => ?_)
set_option maxHeartbeats 8000000 in
set_option maxRecDepth 100000 in
theorem laws_FnSgMatching.calls (k : Nat) (a0 : ByteArray) (a1 : Bool) (r : Bool) (w : World) (h : laws_FnSgMatching.f k a0 a1 = some r) :
    Calls Try.prog 5 #[.string a0, .bool a1] w fun e w' => e = .returned (.bool r) ∧ Below w.heap.size w w' := by
  have HB := Aside0.mk (Below.refl w.heap.size w)
  have H : (if (a0.size : Int) > 2147483647 then (some true) else (if a1 = true then (laws_FnSgMatching.j0 k a0 123 125) else (laws_FnSgMatching.j0 k a0 40 41))) = some r := h
  clear h
  by_cases c3 : (a0.size : Int) > 2147483647
  · rw [if_pos c3] at H
    have c3b0 : decide (2147483647 < (a0.size : Int)) = true := decide_eq_true c3
    have c3b1 : decide (2147483647 < a0.size) = true := decide_eq_true (by omega)
    clear c3
    obtain rfl := Option.some.inj H
    go_enter Try.func5, Try.ntmps5
    go_wp2
    go_ret
    exact ⟨by first | rfl | (simp [errW_none, errW_some] <;> rfl) | (simp [*, errW_none, errW_some] <;> rfl), by repeat (first | (with_reducible first | exact HB.out | apply below_alloc | apply pw_below_drewN | apply below_drew1) | exact HB.out)⟩
  · rw [if_neg c3] at H
    have c3b0 : decide (2147483647 < (a0.size : Int)) = false := decide_eq_false c3
    have c3b1 : decide (2147483647 < a0.size) = false := decide_eq_false (by omega)
    clear c3
    have HC4 := Aside0.mk H
    clear H
    go_enter Try.func5, Try.ntmps5
    go_upto_if 13 with (fail)
    go_cut [5, 6] (fun v5 v6 wc => ∃ (kq : Nat) (x5_3 : Int) (x6_3 : Int), v5 = .int .u8 x5_3 ∧ v6 = .int .u8 x6_3 ∧ Aside0 (laws_FnSgMatching.j0 kq a0 x5_3 x6_3 = some r) ∧ Aside0 (kq ≤ k) ∧ Aside0 (Below w.heap.size w wc))
    case first =>
      have H := HC4.out
      clear HC4
      by_cases c5 : a1 = true
      · subst c5
        have H1 : (laws_FnSgMatching.j0 k a0 123 125) = some r := by rw [if_pos rfl] at H; exact H
        clear H
        have H := H1
        clear H1
        have H' := Aside0.mk H
        clear H
        go_wp2
        go_meet
        case rel => exact ⟨_, (123), (125), (by first | rfl | (simp; done) | (simp [*]; done)), (by first | rfl | (simp; done) | (simp [*]; done)), H', ⟨by first | omega | exact Nat.le_refl _⟩, ⟨by repeat (first | (with_reducible first | exact HB.out | apply below_alloc | apply pw_below_drewN | apply below_drew1) | exact HB.out)⟩⟩
      · replace c5 := Bool.eq_false_iff.mpr c5
        subst c5
        have H1 : (laws_FnSgMatching.j0 k a0 40 41) = some r := by rw [if_neg (show ¬ (false = true) by decide)] at H; exact H
        clear H
        have H := H1
        clear H1
        have H' := Aside0.mk H
        clear H
        go_wp2
        go_meet
        case rel => exact ⟨_, (40), (41), (by first | rfl | (simp; done) | (simp [*]; done)), (by first | rfl | (simp; done) | (simp [*]; done)), H', ⟨by first | omega | exact Nat.le_refl _⟩, ⟨by repeat (first | (with_reducible first | exact HB.out | apply below_alloc | apply pw_below_drewN | apply below_drew1) | exact HB.out)⟩⟩
    case rest =>
      clear HC4
      try clear p2
      try clear c3
      try clear c3b0
      try clear c3b1
      try clear c5
      obtain ⟨kq, x5_3, x6_3, rfl, rfl, HA, HJ3, HB⟩ := hcut
      cases kq with
      | zero => exact absurd HA.out (by simp [laws_FnSgMatching.j0])
      | succ kj3 =>
        have H := HA.out
        clear HA
        simp only [laws_FnSgMatching.j0] at H
        have HC6 := Aside0.mk H
        clear H
        go_upto_region 6 with (fail)
        go_cut [26] (fun v26 wc => ∃ (kq : Nat) (x26_5 : Bool), v26 = .bool x26_5 ∧ Aside0 (laws_FnSgMatching.j1 kq a0 x5_3 x6_3 x26_5 = some r) ∧ Aside0 (kq ≤ kj3) ∧ Aside0 (Below w.heap.size w wc))
        case first =>
          have H := HC6.out
          clear HC6
          by_cases c7 : a0.toList = ([] : List UInt8)
          · rw [if_pos c7] at H
            have c7b0 : (a0.toList == ([] : List UInt8)) = true := beq_iff_eq.mpr c7
            have c7b1 : (a0.toList != ([] : List UInt8)) = false := bne_eq_false_iff_eq.mpr c7
            clear c7
            (first | rw [c7b0] | (simp only [i64_w, i32_w]; rw [c7b0]) | skip)
            have H' := Aside0.mk H
            clear H
            go_wp2
            go_meet
            case rel => exact ⟨_, (true), (by first | rfl | (simp; done) | (simp [*]; done)), H', ⟨by have := HJ3.out; first | omega | exact Nat.le_refl _⟩, ⟨by repeat (first | (with_reducible first | exact HB.out | apply below_alloc | apply pw_below_drewN | apply below_drew1) | exact HB.out)⟩⟩
          · rw [if_neg c7] at H
            have c7b0 : (a0.toList == ([] : List UInt8)) = false := beq_eq_false_iff_ne.mpr c7
            have c7b1 : (a0.toList != ([] : List UInt8)) = true := bne_iff_ne.mpr c7
            (first | rw [c7b0] | (simp only [i64_w, i32_w]; rw [c7b0]) | skip)
            by_cases c8 : 0 < (a0.size : Int)
            · rw [if_pos c8] at H
              have c8b0 : decide (0 < (a0.size : Int)) = true := decide_eq_true c8
              have c8b1 : decide (0 < a0.size) = true := decide_eq_true (by omega)
              clear c8
              by_cases c10 : (bt a0 0) = x5_3
              · rw [if_pos c10] at H
                have c10b0 : ((bt a0 0) == x5_3) = true := beq_iff_eq.mpr c10
                have c10b1 : ((bt a0 0) != x5_3) = false := bne_eq_false_iff_eq.mpr c10
                clear c10
                have H' := Aside0.mk H
                clear H
                have p9 : 0 ≤ (0 : Int) := (by omega)
                have q9 : 0 < a0.size := (by have : (0 : Int) < (a0.size : Int) := of_decide_eq_true (by first | (with_reducible assumption) | assumption); omega)
                have hx9 : ∀ h : 0 < a0.size, ((a0[0]'h).toNat : Int) = bt a0 0 := bt_at a0 0
                clear p9
                have qi9 : (0 < (a0.size : Int)) = True := eq_true (of_decide_eq_true (by first | (with_reducible assumption) | assumption))
                replace q9 := eq_true q9
                go_wp2
                go_meet
                case rel => exact ⟨_, (decide ((a0.size : Int) > 4096)), (by first | rfl | (simp; done) | (simp [*]; done)), H', ⟨by have := HJ3.out; first | omega | exact Nat.le_refl _⟩, ⟨by repeat (first | (with_reducible first | exact HB.out | apply below_alloc | apply pw_below_drewN | apply below_drew1) | exact HB.out)⟩⟩
              · rw [if_neg c10] at H
                have c10b0 : ((bt a0 0) == x5_3) = false := beq_eq_false_iff_ne.mpr c10
                have c10b1 : ((bt a0 0) != x5_3) = true := bne_iff_ne.mpr c10
                have H' := Aside0.mk H
                clear H
                have p9 : 0 ≤ (0 : Int) := (by omega)
                have q9 : 0 < a0.size := (by have : (0 : Int) < (a0.size : Int) := of_decide_eq_true (by first | (with_reducible assumption) | assumption); omega)
                have hx9 : ∀ h : 0 < a0.size, ((a0[0]'h).toNat : Int) = bt a0 0 := bt_at a0 0
                clear p9
                have qi9 : (0 < (a0.size : Int)) = True := eq_true (of_decide_eq_true (by first | (with_reducible assumption) | assumption))
                replace q9 := eq_true q9
                go_wp2
                go_meet
                case rel => exact ⟨_, (true), (by first | rfl | (simp; done) | (simp [*]; done)), H', ⟨by have := HJ3.out; first | omega | exact Nat.le_refl _⟩, ⟨by repeat (first | (with_reducible first | exact HB.out | apply below_alloc | apply pw_below_drewN | apply below_drew1) | exact HB.out)⟩⟩
            · rw [if_neg c8] at H
              exact absurd H (by simp)
        case rest =>
          clear HC6
          try clear c1
          try clear p2
          try clear c3
          try clear c3b0
          try clear c3b1
          try clear c5
          try clear c7
          try clear c7b0
          try clear c7b1
          try clear c8
          try clear c8b0
          try clear c8b1
          try clear p9
          try clear q9
          try clear hx9
          try clear qi9
          try clear c10
          try clear c10b0
          try clear c10b1
          try clear p2
          try clear p9
          try clear q9
          obtain ⟨kq, x26_5, rfl, HA, HJ5, HB⟩ := hcut
          cases kq with
          | zero => exact absurd HA.out (by simp [laws_FnSgMatching.j1])
          | succ kj5 =>
            have H := HA.out
            clear HA
            simp only [laws_FnSgMatching.j1] at H
            by_cases c11 : x26_5 = true
            · subst c11
              have H1 : (some true) = some r := by rw [if_pos rfl] at H; exact H
              clear H
              have H := H1
              clear H1
              obtain rfl := Option.some.inj H
              go_wp2
              go_ret
              exact ⟨by first | rfl | (simp [errW_none, errW_some] <;> rfl) | (simp [*, errW_none, errW_some] <;> rfl), by repeat (first | (with_reducible first | exact HB.out | apply below_alloc | apply pw_below_drewN | apply below_drew1) | exact HB.out)⟩
            · replace c11 := Bool.eq_false_iff.mpr c11
              subst c11
              have H1 : (laws_FnSgMatching.l0 kj5 a0 x5_3 x6_3 (-1) 0 0) = some r := by rw [if_neg (show ¬ (false = true) by decide)] at H; exact H
              clear H
              have H := H1
              clear H1
              have H' := Aside0.mk H
              clear H
              go_wp2
              go_loopg [7, 8, 9] kj5 (fun kq v7 v8 v9 w' => ∃ (x7_3 : Int) (x8_3 : Int) (x9_3 : Int), v7 = .int .i64 x7_3 ∧ v8 = .int .i64 x8_3 ∧ v9 = .int .i64 x9_3 ∧ Aside0 (laws_FnSgMatching.l0 kq a0 x5_3 x6_3 x7_3 x8_3 x9_3 = some r) ∧ Aside0 (kq ≤ kj5) ∧ Aside0 (Below w.heap.size w w'))
              case atStart => exact ⟨((-1)), (0), (0), (by first | rfl | (simp; done) | (simp [*]; done)), (by first | rfl | (simp; done) | (simp [*]; done)), (by first | rfl | (simp; done) | (simp [*]; done)), H', ⟨Nat.le_refl _⟩, ⟨by repeat (first | (with_reducible first | exact HB.out | apply below_alloc | apply pw_below_drewN | apply below_drew1) | exact HB.out)⟩⟩
              case round =>
                clear H'
                try clear c1
                try clear p2
                try clear c3
                try clear c3b0
                try clear c3b1
                try clear c5
                try clear c7
                try clear c7b0
                try clear c7b1
                try clear c8
                try clear c8b0
                try clear c8b1
                try clear p9
                try clear q9
                try clear hx9
                try clear qi9
                try clear c10
                try clear c10b0
                try clear c10b1
                try clear c11
                try clear p2
                try clear p9
                try clear q9
                obtain ⟨x7_3, x8_3, x9_3, rfl, rfl, rfl, HA, HK3, HB⟩ := hrel
                cases gk with
                | zero => exact absurd HA.out (by simp [laws_FnSgMatching.l0])
                | succ k3 =>
                  have H := HA.out
                  clear HA
                  simp only [laws_FnSgMatching.l0] at H
                  have HC12 := Aside0.mk H
                  clear H
                  go_upto_region 10 with (fail)
                  go_cut [34] (fun v34 wc => ∃ (kq : Nat) (x34_11 : Bool), v34 = .bool x34_11 ∧ Aside0 (laws_FnSgMatching.j3 kq a0 x5_3 x6_3 x7_3 x8_3 x9_3 x34_11 = some r) ∧ Aside0 (kq ≤ k3) ∧ Aside0 (Below w.heap.size w wc))
                  case first =>
                    have H := HC12.out
                    clear HC12
                    by_cases c13 : x9_3 < (a0.size : Int)
                    · rw [if_pos c13] at H
                      have c13b0 : decide (x9_3 < (a0.size : Int)) = true := decide_eq_true c13
                      clear c13
                      (first | rw [c13b0] | (simp only [i64_w, i32_w]; rw [c13b0]) | skip)
                      have H' := Aside0.mk H
                      clear H
                      go_wp2
                      go_meet
                      case rel => exact ⟨_, (decide (x7_3 < 0)), (by first | rfl | (simp; done) | (simp [*]; done)), H', ⟨by have := HJ3.out; have := HJ5.out; have := HK3.out; first | omega | exact Nat.le_refl _⟩, ⟨by repeat (first | (with_reducible first | exact HB.out | apply below_alloc | apply pw_below_drewN | apply below_drew1) | exact HB.out)⟩⟩
                    · rw [if_neg c13] at H
                      have c13b0 : decide (x9_3 < (a0.size : Int)) = false := decide_eq_false c13
                      clear c13
                      (first | rw [c13b0] | (simp only [i64_w, i32_w]; rw [c13b0]) | skip)
                      have H' := Aside0.mk H
                      clear H
                      go_wp2
                      go_meet
                      case rel => exact ⟨_, (false), (by first | rfl | (simp; done) | (simp [*]; done)), H', ⟨by have := HJ3.out; have := HJ5.out; have := HK3.out; first | omega | exact Nat.le_refl _⟩, ⟨by repeat (first | (with_reducible first | exact HB.out | apply below_alloc | apply pw_below_drewN | apply below_drew1) | exact HB.out)⟩⟩
                  case rest =>
                    clear HC12
                    try clear c1
                    try clear p2
                    try clear c3
                    try clear c3b0
                    try clear c3b1
                    try clear c5
                    try clear c7
                    try clear c7b0
                    try clear c7b1
                    try clear c8
                    try clear c8b0
                    try clear c8b1
                    try clear p9
                    try clear q9
                    try clear hx9
                    try clear qi9
                    try clear c10
                    try clear c10b0
                    try clear c10b1
                    try clear c11
                    try clear c13
                    try clear c13b0
                    try clear p2
                    try clear p9
                    try clear q9
                    obtain ⟨kq, x34_11, rfl, HA, HJ11, HB⟩ := hcut
                    cases kq with
                    | zero => exact absurd HA.out (by simp [laws_FnSgMatching.j3])
                    | succ kj11 =>
                      have H := HA.out
                      clear HA
                      simp only [laws_FnSgMatching.j3] at H
                      by_cases c14 : x34_11 = true
                      · subst c14
                        have H1 : (if 0 ≤ x9_3 then (if x9_3 < (a0.size : Int) then (if (bt a0 x9_3) = x5_3 then (laws_FnSgMatching.l0 kj11 a0 x5_3 x6_3 x7_3 (wrap64 (x8_3 + 1)) (wrap64 (x9_3 + 1))) else (if (bt a0 x9_3) = x6_3 then (if (wrap64 (x8_3 - 1)) = 0 then (laws_FnSgMatching.l0 kj11 a0 x5_3 x6_3 x9_3 (wrap64 (x8_3 - 1)) (wrap64 (x9_3 + 1))) else (laws_FnSgMatching.l0 kj11 a0 x5_3 x6_3 x7_3 (wrap64 (x8_3 - 1)) (wrap64 (x9_3 + 1)))) else (laws_FnSgMatching.l0 kj11 a0 x5_3 x6_3 x7_3 x8_3 (wrap64 (x9_3 + 1))))) else (none)) else (none)) = some r := by rw [if_pos rfl] at H; exact H
                        clear H
                        have H := H1
                        clear H1
                        by_cases c15 : 0 ≤ x9_3
                        · rw [if_pos c15] at H
                          have c15b0 : decide (0 ≤ x9_3) = true := decide_eq_true c15
                          clear c15
                          by_cases c16 : x9_3 < (a0.size : Int)
                          · rw [if_pos c16] at H
                            have c16b0 : decide (x9_3 < (a0.size : Int)) = true := decide_eq_true c16
                            clear c16
                            by_cases c18 : (bt a0 x9_3) = x5_3
                            · rw [if_pos c18] at H
                              have c18b0 : ((bt a0 x9_3) == x5_3) = true := beq_iff_eq.mpr c18
                              have c18b1 : ((bt a0 x9_3) != x5_3) = false := bne_eq_false_iff_eq.mpr c18
                              clear c18
                              have H' := Aside0.mk H
                              clear H
                              have p17 : 0 ≤ (x9_3 : Int) := of_decide_eq_true (by first | (with_reducible assumption) | assumption)
                              have q17 : x9_3 < (a0.size : Int) := of_decide_eq_true (by first | (with_reducible assumption) | assumption)
                              have hx17 := bt_at a0 x9_3
                              replace p17 := eq_true p17
                              replace q17 := eq_true q17
                              go_wp2
                              go_roundg kj11
                              case measure => have := HJ3.out; have := HJ5.out; have := HK3.out; have := HJ11.out; omega
                              case rel => exact ⟨(x7_3), (wrap64 (x8_3 + 1)), (wrap64 (x9_3 + 1)), (by first | rfl | (simp; done) | (simp [*]; done)), (by first | rfl | (simp; done) | (simp [*]; done)), (by first | rfl | (simp; done) | (simp [*]; done)), H', ⟨by have := HJ3.out; have := HJ5.out; have := HK3.out; have := HJ11.out; omega⟩, ⟨by repeat (first | (with_reducible first | exact HB.out | apply below_alloc | apply pw_below_drewN | apply below_drew1) | exact HB.out)⟩⟩
                            · rw [if_neg c18] at H
                              have c18b0 : ((bt a0 x9_3) == x5_3) = false := beq_eq_false_iff_ne.mpr c18
                              have c18b1 : ((bt a0 x9_3) != x5_3) = true := bne_iff_ne.mpr c18
                              by_cases c20 : (bt a0 x9_3) = x6_3
                              · rw [if_pos c20] at H
                                have c20b0 : ((bt a0 x9_3) == x6_3) = true := beq_iff_eq.mpr c20
                                have c20b1 : ((bt a0 x9_3) != x6_3) = false := bne_eq_false_iff_eq.mpr c20
                                clear c20
                                by_cases c21 : (wrap64 (x8_3 - 1)) = 0
                                · rw [if_pos c21] at H
                                  have c21b0 : ((wrap64 (x8_3 - 1)) == 0) = true := beq_iff_eq.mpr c21
                                  have c21b1 : ((wrap64 (x8_3 - 1)) != 0) = false := bne_eq_false_iff_eq.mpr c21
                                  clear c21
                                  have H' := Aside0.mk H
                                  clear H
                                  have p17 : 0 ≤ (x9_3 : Int) := of_decide_eq_true (by first | (with_reducible assumption) | assumption)
                                  have q17 : x9_3 < (a0.size : Int) := of_decide_eq_true (by first | (with_reducible assumption) | assumption)
                                  have hx17 := bt_at a0 x9_3
                                  replace p17 := eq_true p17
                                  replace q17 := eq_true q17
                                  have p19 : 0 ≤ (x9_3 : Int) := of_decide_eq_true (by first | (with_reducible assumption) | assumption)
                                  have q19 : x9_3 < (a0.size : Int) := of_decide_eq_true (by first | (with_reducible assumption) | assumption)
                                  have hx19 := bt_at a0 x9_3
                                  replace p19 := eq_true p19
                                  replace q19 := eq_true q19
                                  go_wp2
                                  go_roundg kj11
                                  case measure => have := HJ3.out; have := HJ5.out; have := HK3.out; have := HJ11.out; omega
                                  case rel => exact ⟨(x9_3), (wrap64 (x8_3 - 1)), (wrap64 (x9_3 + 1)), (by first | rfl | (simp; done) | (simp [*]; done)), (by first | rfl | (simp; done) | (simp [*]; done)), (by first | rfl | (simp; done) | (simp [*]; done)), H', ⟨by have := HJ3.out; have := HJ5.out; have := HK3.out; have := HJ11.out; omega⟩, ⟨by repeat (first | (with_reducible first | exact HB.out | apply below_alloc | apply pw_below_drewN | apply below_drew1) | exact HB.out)⟩⟩
                                · rw [if_neg c21] at H
                                  have c21b0 : ((wrap64 (x8_3 - 1)) == 0) = false := beq_eq_false_iff_ne.mpr c21
                                  have c21b1 : ((wrap64 (x8_3 - 1)) != 0) = true := bne_iff_ne.mpr c21
                                  have H' := Aside0.mk H
                                  clear H
                                  have p17 : 0 ≤ (x9_3 : Int) := of_decide_eq_true (by first | (with_reducible assumption) | assumption)
                                  have q17 : x9_3 < (a0.size : Int) := of_decide_eq_true (by first | (with_reducible assumption) | assumption)
                                  have hx17 := bt_at a0 x9_3
                                  replace p17 := eq_true p17
                                  replace q17 := eq_true q17
                                  have p19 : 0 ≤ (x9_3 : Int) := of_decide_eq_true (by first | (with_reducible assumption) | assumption)
                                  have q19 : x9_3 < (a0.size : Int) := of_decide_eq_true (by first | (with_reducible assumption) | assumption)
                                  have hx19 := bt_at a0 x9_3
                                  replace p19 := eq_true p19
                                  replace q19 := eq_true q19
                                  go_wp2
                                  go_roundg kj11
                                  case measure => have := HJ3.out; have := HJ5.out; have := HK3.out; have := HJ11.out; omega
                                  case rel => exact ⟨(x7_3), (wrap64 (x8_3 - 1)), (wrap64 (x9_3 + 1)), (by first | rfl | (simp; done) | (simp [*]; done)), (by first | rfl | (simp; done) | (simp [*]; done)), (by first | rfl | (simp; done) | (simp [*]; done)), H', ⟨by have := HJ3.out; have := HJ5.out; have := HK3.out; have := HJ11.out; omega⟩, ⟨by repeat (first | (with_reducible first | exact HB.out | apply below_alloc | apply pw_below_drewN | apply below_drew1) | exact HB.out)⟩⟩
                              · rw [if_neg c20] at H
                                have c20b0 : ((bt a0 x9_3) == x6_3) = false := beq_eq_false_iff_ne.mpr c20
                                have c20b1 : ((bt a0 x9_3) != x6_3) = true := bne_iff_ne.mpr c20
                                have H' := Aside0.mk H
                                clear H
                                have p17 : 0 ≤ (x9_3 : Int) := of_decide_eq_true (by first | (with_reducible assumption) | assumption)
                                have q17 : x9_3 < (a0.size : Int) := of_decide_eq_true (by first | (with_reducible assumption) | assumption)
                                have hx17 := bt_at a0 x9_3
                                replace p17 := eq_true p17
                                replace q17 := eq_true q17
                                have p19 : 0 ≤ (x9_3 : Int) := of_decide_eq_true (by first | (with_reducible assumption) | assumption)
                                have q19 : x9_3 < (a0.size : Int) := of_decide_eq_true (by first | (with_reducible assumption) | assumption)
                                have hx19 := bt_at a0 x9_3
                                replace p19 := eq_true p19
                                replace q19 := eq_true q19
                                go_wp2
                                go_roundg kj11
                                case measure => have := HJ3.out; have := HJ5.out; have := HK3.out; have := HJ11.out; omega
                                case rel => exact ⟨(x7_3), (x8_3), (wrap64 (x9_3 + 1)), (by first | rfl | (simp; done) | (simp [*]; done)), (by first | rfl | (simp; done) | (simp [*]; done)), (by first | rfl | (simp; done) | (simp [*]; done)), H', ⟨by have := HJ3.out; have := HJ5.out; have := HK3.out; have := HJ11.out; omega⟩, ⟨by repeat (first | (with_reducible first | exact HB.out | apply below_alloc | apply pw_below_drewN | apply below_drew1) | exact HB.out)⟩⟩
                          · rw [if_neg c16] at H
                            exact absurd H (by simp)
                        · rw [if_neg c15] at H
                          exact absurd H (by simp)
                      · replace c14 := Bool.eq_false_iff.mpr c14
                        subst c14
                        have H1 : ((impl_SgMatching.f a0 x5_3 x6_3).bind fun t103 => (if t103 = x7_3 then ((impl_SgMatching.f (⟨#[40, 97, 41]⟩ : ByteArray) 40 41).bind fun t104 => (some (t104 == 2))) else (some false))) = some r := by rw [if_neg (show ¬ (false = true) by decide)] at H; exact H
                        clear H
                        have H := H1
                        clear H1
                        replace H := Option.bind_eq_some_iff.mp H
                        obtain ⟨t103, A220, H⟩ := H
                        replace H : (if t103 = x7_3 then ((impl_SgMatching.f (⟨#[40, 97, 41]⟩ : ByteArray) 40 41).bind fun t104 => (some (t104 == 2))) else (some false)) = some r := H
                        have A22 := Aside0.mk A220
                        clear A220
                        by_cases c23 : t103 = x7_3
                        · rw [if_pos c23] at H
                          have c23b0 : (t103 == x7_3) = true := beq_iff_eq.mpr c23
                          have c23b1 : (t103 != x7_3) = false := bne_eq_false_iff_eq.mpr c23
                          clear c23
                          replace H := Option.bind_eq_some_iff.mp H
                          obtain ⟨t104, A240, H⟩ := H
                          replace H : (some (t104 == 2)) = some r := H
                          have A24 := Aside0.mk A240
                          clear A240
                          obtain rfl := Option.some.inj H
                          go_wp2_with (first | ((with_reducible refine gate_callee (f := 17) rfl ?_); refine goesL_ (some 57) rfl rfl Try.func17 (by kernel_rfl) rfl #[.string a0, .int .u8 x5_3, .int .u8 x6_3] rfl (by (try simp only [List.map_toArray, List.map_cons, List.map_nil]); first | done | rfl | (simp only [List.length_drop, List.length_take]; rfl)) ?_; (with_reducible refine (impl_SgMatching.calls a0 x5_3 x6_3 t103 _ A22.out).mono ?_); rintro e w25 ⟨rfl, hb⟩; refine ⟨_, rfl, ?_⟩; have n0_ := Aside0.mk (below_step (by repeat (first | (with_reducible first | exact HB.out | apply below_alloc | apply pw_below_drewN | apply below_drew1) | exact HB.out)) hb); clear HB; have HB := n0_; clear n0_; (try clear hb); (try clear hb2); (try clear hk); (try clear hi)) | (go_at_call 17; (with_reducible refine (impl_SgMatching.calls (⟨#[40, 97, 41]⟩ : ByteArray) 40 41 t104 _ A24.out).mono ?_); rintro e w26 ⟨rfl, hb⟩; have n0_ := Aside0.mk (below_step (by repeat (first | (with_reducible first | exact HB.out | apply below_alloc | apply pw_below_drewN | apply below_drew1) | exact HB.out)) hb); clear HB; have HB := n0_; clear n0_; (try clear hb); (try clear hb2); (try clear hk); (try clear hi)))
                          go_ret
                          exact ⟨by first | rfl | (simp [errW_none, errW_some] <;> rfl) | (simp [*, errW_none, errW_some] <;> rfl), by repeat (first | (with_reducible first | exact HB.out | apply below_alloc | apply pw_below_drewN | apply below_drew1) | exact HB.out)⟩
                        · rw [if_neg c23] at H
                          have c23b0 : (t103 == x7_3) = false := beq_eq_false_iff_ne.mpr c23
                          have c23b1 : (t103 != x7_3) = true := bne_iff_ne.mpr c23
                          obtain rfl := Option.some.inj H
                          go_wp2_with (first | ((with_reducible refine gate_callee (f := 17) rfl ?_); refine goesL_ (some 57) rfl rfl Try.func17 (by kernel_rfl) rfl #[.string a0, .int .u8 x5_3, .int .u8 x6_3] rfl (by (try simp only [List.map_toArray, List.map_cons, List.map_nil]); first | done | rfl | (simp only [List.length_drop, List.length_take]; rfl)) ?_; (with_reducible refine (impl_SgMatching.calls a0 x5_3 x6_3 t103 _ A22.out).mono ?_); rintro e w27 ⟨rfl, hb⟩; refine ⟨_, rfl, ?_⟩; have n0_ := Aside0.mk (below_step (by repeat (first | (with_reducible first | exact HB.out | apply below_alloc | apply pw_below_drewN | apply below_drew1) | exact HB.out)) hb); clear HB; have HB := n0_; clear n0_; (try clear hb); (try clear hb2); (try clear hk); (try clear hi)))
                          go_ret
                          exact ⟨by first | rfl | (simp [errW_none, errW_some] <;> rfl) | (simp [*, errW_none, errW_some] <;> rfl), by repeat (first | (with_reducible first | exact HB.out | apply below_alloc | apply pw_below_drewN | apply below_drew1) | exact HB.out)⟩

/-- THE ONE PURE STATEMENT of laws_FnSgMatching: yours. -/
def laws_FnSgMatching.Pure : Prop := ∀ (a0 : ByteArray) (a1 : Bool), a0.size ≤ 140737488351232 → ∃ k, laws_FnSgMatching.f k a0 a1 = some true
theorem laws_FnSgMatching.walk (P : laws_FnSgMatching.Pure) (a0 : ByteArray) (a1 : Bool) (w : World) (w0 : a0.size ≤ 140737488351232) :
    Calls Try.prog 5 #[.string a0, .bool a1] w fun e w' => e = .returned (.bool true) ∧ Below w.heap.size w w' := by
  obtain ⟨k, h⟩ := P a0 a1 w0
  refine (laws_FnSgMatching.calls k a0 a1 true w h).mono ?_
  rintro e w' ⟨rfl, hd⟩
  exact ⟨rfl, hd⟩

end Go.Proofs.Ythkmgbfobobpdaa.PFnSgMatching

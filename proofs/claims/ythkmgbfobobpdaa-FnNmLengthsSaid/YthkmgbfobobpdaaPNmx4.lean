-- Written by a program of this session (wip/tools/myprint.py) for this claim.
import Derived.Test.YthkmgbfobobpdaaPNmx0
import Derived.Test.YthkmgbfobobpdaaPNmx1
import Derived.Test.YthkmgbfobobpdaaPNmx2
import Derived.Test.YthkmgbfobobpdaaPNmx3
namespace Go.Proofs.Ythkmgbfobobpdaa.PNm
open Go.RowKit Go.Proofs.YthkmgbfobobpdaaW.PrintWords Go.Proofs.YthkmgbfobobpdaaW.PrintLast Go.Proofs.YthkmgbfobobpdaaW.PrintMore
attribute [local go_sem] max2_int min2_int max_two min_two max_three min_three max_four min_four   -- for this text's walks alone
set_option linter.unusedVariables false
set_option linter.unusedSimpArgs false

/-! ### laws_FnNmJoin: function 13 -/
mutual
def laws_FnNmJoin.j0 : Nat → ByteArray → ByteArray → ByteArray → Bool → Option (Bool)
  | 0, _, _, _, _ => none
  | k + 1, x0, x1, x2, x21 => if x21 = true then (some true) else ((spec_ValidInterface.f k x0).bind fun t131 => (if t131 = true then ((spec_ValidInterface.f k x1).bind fun t132 => (if t132 = true then ((spec_ValidMember.f k x2).bind fun t133 => (laws_FnNmJoin.j1 k x0 x1 x2 (!t133))) else (laws_FnNmJoin.j1 k x0 x1 x2 true))) else (laws_FnNmJoin.j1 k x0 x1 x2 true)))
def laws_FnNmJoin.j1 : Nat → ByteArray → ByteArray → ByteArray → Bool → Option (Bool)
  | 0, _, _, _, _ => none
  | k + 1, x0, x1, x2, x34 => if x34 = true then (some true) else (if x0.size + 1 ≤ 9223372036854775807 then (if (x0 ++ (⟨#[46]⟩ : ByteArray)).size + x1.size ≤ 9223372036854775807 then (if (x0 ++ (⟨#[46]⟩ : ByteArray)).size + x2.size ≤ 9223372036854775807 then ((impl_NmInterface.f ((x0 ++ (⟨#[46]⟩ : ByteArray)) ++ x1)).bind fun t134 => (if (t134 == (decide (((x0.size : Int) + 1 + (x1.size : Int)) ≤ 255))) = true then ((impl_NmInterface.f ((x0 ++ (⟨#[46]⟩ : ByteArray)) ++ x2)).bind fun t135 => (if (t135 == (decide (((x0.size : Int) + 1 + (x2.size : Int)) ≤ 255))) = true then ((impl_NmInterface.f x2).bind fun t136 => (if t136 = true then (some false) else ((impl_NmMember.f x0).bind fun t137 => (if t137 = true then (some false) else (if 1 + x2.size ≤ 9223372036854775807 then ((impl_NmInterface.f ((⟨#[46]⟩ : ByteArray) ++ x2)).bind fun t138 => (if t138 = true then (some false) else (if x2.size + 1 ≤ 9223372036854775807 then ((impl_NmInterface.f (x2 ++ (⟨#[46]⟩ : ByteArray))).bind fun t139 => (if t139 = true then (some false) else ((impl_NmMember.f x2).bind fun t140 => (some t140)))) else (none)))) else (none)))))) else (some false))) else (some false))) else (none)) else (none)) else (none))
end
def laws_FnNmJoin.f (k : Nat) (a0 : ByteArray) (a1 : ByteArray) (a2 : ByteArray) : Option (Bool) := if (a0.size : Int) > 2147483647 then (laws_FnNmJoin.j0 k a0 a1 a2 true) else (if (a1.size : Int) > 2147483647 then (laws_FnNmJoin.j0 k a0 a1 a2 true) else (laws_FnNmJoin.j0 k a0 a1 a2 (decide ((a2.size : Int) > 2147483647))))
theorem laws_FnNmJoin.mono_l : ∀ k, (∀ y0 y1 y2 y3, LeO (laws_FnNmJoin.j0 k y0 y1 y2 y3) (laws_FnNmJoin.j0 (k + 1) y0 y1 y2 y3)) ∧ (∀ y0 y1 y2 y3, LeO (laws_FnNmJoin.j1 k y0 y1 y2 y3) (laws_FnNmJoin.j1 (k + 1) y0 y1 y2 y3))
  | 0 => ⟨fun _ _ _ _ r h => by simp [laws_FnNmJoin.j0] at h, fun _ _ _ _ r h => by simp [laws_FnNmJoin.j1] at h⟩
  | k + 1 => by
    obtain ⟨ih0, ih1⟩ := laws_FnNmJoin.mono_l k
    refine ⟨?_, ?_⟩
    · intro y0 y1 y2 y3
      unfold laws_FnNmJoin.j0
      repeat' first
      | (with_reducible exact ih0 _ _ _ _)
      | (with_reducible exact ih1 _ _ _ _)
      | (with_reducible exact spec_ValidInterface.mono _ _)
      | (with_reducible exact spec_ValidMember.mono _ _)
      | (with_reducible exact LeO.refl _)
      | (with_reducible exact LeO.none _)
      | (with_reducible refine LeO.ite ?_ ?_)
      | (with_reducible refine LeO.bind ?_ (fun _ => ?_))
      | exact ih0 _ _ _ _
      | exact ih1 _ _ _ _
      | exact spec_ValidInterface.mono _ _
      | exact spec_ValidMember.mono _ _
      | exact LeO.none _
      | refine LeO.ite ?_ ?_
      | refine LeO.bind ?_ (fun _ => ?_)
    · intro y0 y1 y2 y3
      unfold laws_FnNmJoin.j1
      repeat' first
      | (with_reducible exact ih0 _ _ _ _)
      | (with_reducible exact ih1 _ _ _ _)
      | (with_reducible exact spec_ValidInterface.mono _ _)
      | (with_reducible exact spec_ValidMember.mono _ _)
      | (with_reducible exact LeO.refl _)
      | (with_reducible exact LeO.none _)
      | (with_reducible refine LeO.ite ?_ ?_)
      | (with_reducible refine LeO.bind ?_ (fun _ => ?_))
      | exact ih0 _ _ _ _
      | exact ih1 _ _ _ _
      | exact spec_ValidInterface.mono _ _
      | exact spec_ValidMember.mono _ _
      | exact LeO.none _
      | refine LeO.ite ?_ ?_
      | refine LeO.bind ?_ (fun _ => ?_)
theorem laws_FnNmJoin.mono : ∀ a0 a1 a2 k, LeO (laws_FnNmJoin.f k a0 a1 a2) (laws_FnNmJoin.f (k + 1) a0 a1 a2) := by
  intro a0 a1 a2 k
  obtain ⟨ih0, ih1⟩ := laws_FnNmJoin.mono_l k
  unfold laws_FnNmJoin.f
  repeat' first
      | (with_reducible exact ih0 _ _ _ _)
      | (with_reducible exact ih1 _ _ _ _)
      | (with_reducible exact spec_ValidInterface.mono _ _)
      | (with_reducible exact spec_ValidMember.mono _ _)
      | (with_reducible exact LeO.refl _)
      | (with_reducible exact LeO.none _)
      | (with_reducible refine LeO.ite ?_ ?_)
      | (with_reducible refine LeO.bind ?_ (fun _ => ?_))
      | exact ih0 _ _ _ _
      | exact ih1 _ _ _ _
      | exact spec_ValidInterface.mono _ _
      | exact spec_ValidMember.mono _ _
      | exact LeO.none _
      | refine LeO.ite ?_ ?_
      | refine LeO.bind ?_ (fun _ => ?_)
set_option maxHeartbeats 8000000 in
set_option maxRecDepth 100000 in
theorem laws_FnNmJoin.calls (k : Nat) (a0 : ByteArray) (a1 : ByteArray) (a2 : ByteArray) (r : Bool) (w : World) (h : laws_FnNmJoin.f k a0 a1 a2 = some r) :
    Calls Try.prog 13 #[.string a0, .string a1, .string a2] w fun e w' => e = .returned (.bool r) ∧ Below w.heap.size w w' := by
  have HB := Aside0.mk (Below.refl w.heap.size w)
  have H : (if (a0.size : Int) > 2147483647 then (laws_FnNmJoin.j0 k a0 a1 a2 true) else (if (a1.size : Int) > 2147483647 then (laws_FnNmJoin.j0 k a0 a1 a2 true) else (laws_FnNmJoin.j0 k a0 a1 a2 (decide ((a2.size : Int) > 2147483647))))) = some r := h
  clear h
  have HC4 := Aside0.mk H
  clear H
  go_enter Try.func13, Try.ntmps13
  go_upto_region 1 with (fail)
  go_cut [21] (fun v21 wc => ∃ (kq : Nat) (x21_3 : Bool), v21 = .bool x21_3 ∧ Aside0 (laws_FnNmJoin.j0 kq a0 a1 a2 x21_3 = some r) ∧ Aside0 (kq ≤ k) ∧ Aside0 (Below w.heap.size w wc))
  case first =>
    have H := HC4.out
    clear HC4
    by_cases c5 : (a0.size : Int) > 2147483647
    · rw [if_pos c5] at H
      have c5b0 : decide (2147483647 < (a0.size : Int)) = true := decide_eq_true c5
      have c5b1 : decide (2147483647 < a0.size) = true := decide_eq_true (by omega)
      clear c5
      (first | rw [c5b0] | (simp only [i64_w, i32_w]; rw [c5b0]) | skip)
      have H' := Aside0.mk H
      clear H
      go_wp2
      go_meet
      case rel => exact ⟨_, (true), (by first | rfl | (simp; done) | (simp [*]; done)), H', ⟨by first | omega | exact Nat.le_refl _⟩, ⟨by repeat (first | (with_reducible first | exact HB.out | apply below_alloc | apply pw_below_drewN | apply below_drew1) | exact HB.out)⟩⟩
    · rw [if_neg c5] at H
      have c5b0 : decide (2147483647 < (a0.size : Int)) = false := decide_eq_false c5
      have c5b1 : decide (2147483647 < a0.size) = false := decide_eq_false (by omega)
      clear c5
      (first | rw [c5b0] | (simp only [i64_w, i32_w]; rw [c5b0]) | skip)
      by_cases c6 : (a1.size : Int) > 2147483647
      · rw [if_pos c6] at H
        have c6b0 : decide (2147483647 < (a1.size : Int)) = true := decide_eq_true c6
        have c6b1 : decide (2147483647 < a1.size) = true := decide_eq_true (by omega)
        clear c6
        have H' := Aside0.mk H
        clear H
        go_wp2
        go_meet
        case rel => exact ⟨_, (true), (by first | rfl | (simp; done) | (simp [*]; done)), H', ⟨by first | omega | exact Nat.le_refl _⟩, ⟨by repeat (first | (with_reducible first | exact HB.out | apply below_alloc | apply pw_below_drewN | apply below_drew1) | exact HB.out)⟩⟩
      · rw [if_neg c6] at H
        have c6b0 : decide (2147483647 < (a1.size : Int)) = false := decide_eq_false c6
        have c6b1 : decide (2147483647 < a1.size) = false := decide_eq_false (by omega)
        clear c6
        have H' := Aside0.mk H
        clear H
        go_wp2
        go_meet
        case rel => exact ⟨_, (decide ((a2.size : Int) > 2147483647)), (by first | rfl | (simp; done) | (simp [*]; done)), H', ⟨by first | omega | exact Nat.le_refl _⟩, ⟨by repeat (first | (with_reducible first | exact HB.out | apply below_alloc | apply pw_below_drewN | apply below_drew1) | exact HB.out)⟩⟩
  case rest =>
    clear HC4
    try clear c1
    try clear p2
    try clear c5
    try clear c5b0
    try clear c5b1
    try clear c6
    try clear c6b0
    try clear c6b1
    obtain ⟨kq, x21_3, rfl, HA, HJ3, HB⟩ := hcut
    cases kq with
    | zero => exact absurd HA.out (by simp [laws_FnNmJoin.j0])
    | succ kj3 =>
      have H := HA.out
      clear HA
      simp only [laws_FnNmJoin.j0] at H
      by_cases c7 : x21_3 = true
      · subst c7
        have H1 : (some true) = some r := by rw [if_pos rfl] at H; exact H
        clear H
        have H := H1
        clear H1
        obtain rfl := Option.some.inj H
        go_wp2
        go_ret
        exact ⟨by first | rfl | (simp [errW_none, errW_some] <;> rfl) | (simp [*, errW_none, errW_some] <;> rfl), by repeat (first | (with_reducible first | exact HB.out | apply below_alloc | apply pw_below_drewN | apply below_drew1) | exact HB.out)⟩
      · replace c7 := Bool.eq_false_iff.mpr c7
        subst c7
        have H1 : ((spec_ValidInterface.f kj3 a0).bind fun t131 => (if t131 = true then ((spec_ValidInterface.f kj3 a1).bind fun t132 => (if t132 = true then ((spec_ValidMember.f kj3 a2).bind fun t133 => (laws_FnNmJoin.j1 kj3 a0 a1 a2 (!t133))) else (laws_FnNmJoin.j1 kj3 a0 a1 a2 true))) else (laws_FnNmJoin.j1 kj3 a0 a1 a2 true))) = some r := by rw [if_neg (show ¬ (false = true) by decide)] at H; exact H
        clear H
        have H := H1
        clear H1
        have HC8 := Aside0.mk H
        clear H
        go_upto_region 3 with (fail)
        go_cut [34] (fun v34 wc => ∃ (kq : Nat) (x34_7 : Bool), v34 = .bool x34_7 ∧ Aside0 (laws_FnNmJoin.j1 kq a0 a1 a2 x34_7 = some r) ∧ Aside0 (kq ≤ kj3) ∧ Aside0 (Below w.heap.size w wc))
        case first =>
          have H := HC8.out
          clear HC8
          replace H := Option.bind_eq_some_iff.mp H
          obtain ⟨t131, A90, H⟩ := H
          replace H : (if t131 = true then ((spec_ValidInterface.f kj3 a1).bind fun t132 => (if t132 = true then ((spec_ValidMember.f kj3 a2).bind fun t133 => (laws_FnNmJoin.j1 kj3 a0 a1 a2 (!t133))) else (laws_FnNmJoin.j1 kj3 a0 a1 a2 true))) else (laws_FnNmJoin.j1 kj3 a0 a1 a2 true)) = some r := H
          have A9 := Aside0.mk A90
          clear A90
          by_cases c10 : t131 = true
          · subst c10
            have H1 : ((spec_ValidInterface.f kj3 a1).bind fun t132 => (if t132 = true then ((spec_ValidMember.f kj3 a2).bind fun t133 => (laws_FnNmJoin.j1 kj3 a0 a1 a2 (!t133))) else (laws_FnNmJoin.j1 kj3 a0 a1 a2 true))) = some r := by rw [if_pos rfl] at H; exact H
            clear H
            have H := H1
            clear H1
            replace H := Option.bind_eq_some_iff.mp H
            obtain ⟨t132, A110, H⟩ := H
            replace H : (if t132 = true then ((spec_ValidMember.f kj3 a2).bind fun t133 => (laws_FnNmJoin.j1 kj3 a0 a1 a2 (!t133))) else (laws_FnNmJoin.j1 kj3 a0 a1 a2 true)) = some r := H
            have A11 := Aside0.mk A110
            clear A110
            by_cases c12 : t132 = true
            · subst c12
              have H1 : ((spec_ValidMember.f kj3 a2).bind fun t133 => (laws_FnNmJoin.j1 kj3 a0 a1 a2 (!t133))) = some r := by rw [if_pos rfl] at H; exact H
              clear H
              have H := H1
              clear H1
              replace H := Option.bind_eq_some_iff.mp H
              obtain ⟨t133, A130, H⟩ := H
              replace H : (laws_FnNmJoin.j1 kj3 a0 a1 a2 (!t133)) = some r := H
              have A13 := Aside0.mk A130
              clear A130
              have H' := Aside0.mk H
              clear H
              go_wp2_with (first | ((with_reducible refine gate_callee (f := 25) rfl ?_); refine goesL_ (some 23) rfl rfl Try.func25 (by kernel_rfl) rfl #[.string a0] rfl (by (try simp only [List.map_toArray, List.map_cons, List.map_nil]); first | done | rfl | (simp only [List.length_drop, List.length_take]; rfl)) ?_; (with_reducible refine (spec_ValidInterface.calls kj3 a0 true _ A9.out).mono ?_); rintro e w14 ⟨rfl, hb⟩; refine ⟨_, rfl, ?_⟩; have n0_ := Aside0.mk (below_step (by repeat (first | (with_reducible first | exact HB.out | apply below_alloc | apply pw_below_drewN | apply below_drew1) | exact HB.out)) hb); clear HB; have HB := n0_; clear n0_; (try clear hb); (try clear hb2); (try clear hk); (try clear hi)) | (go_at_call 25; (with_reducible refine (spec_ValidInterface.calls kj3 a1 true _ A11.out).mono ?_); rintro e w15 ⟨rfl, hb⟩; have n0_ := Aside0.mk (below_step (by repeat (first | (with_reducible first | exact HB.out | apply below_alloc | apply pw_below_drewN | apply below_drew1) | exact HB.out)) hb); clear HB; have HB := n0_; clear n0_; (try clear hb); (try clear hb2); (try clear hk); (try clear hi)) | (go_at_call 28; (with_reducible refine (spec_ValidMember.calls kj3 a2 t133 _ A13.out).mono ?_); rintro e w16 ⟨rfl, hb⟩; have n0_ := Aside0.mk (below_step (by repeat (first | (with_reducible first | exact HB.out | apply below_alloc | apply pw_below_drewN | apply below_drew1) | exact HB.out)) hb); clear HB; have HB := n0_; clear n0_; (try clear hb); (try clear hb2); (try clear hk); (try clear hi)))
              go_meet
              case rel => exact ⟨_, (!t133), (by first | rfl | (simp; done) | (simp [*]; done)), H', ⟨by have := HJ3.out; first | omega | exact Nat.le_refl _⟩, ⟨by repeat (first | (with_reducible first | exact HB.out | apply below_alloc | apply pw_below_drewN | apply below_drew1) | exact HB.out)⟩⟩
            · replace c12 := Bool.eq_false_iff.mpr c12
              subst c12
              have H1 : (laws_FnNmJoin.j1 kj3 a0 a1 a2 true) = some r := by rw [if_neg (show ¬ (false = true) by decide)] at H; exact H
              clear H
              have H := H1
              clear H1
              have H' := Aside0.mk H
              clear H
              go_wp2_with (first | ((with_reducible refine gate_callee (f := 25) rfl ?_); refine goesL_ (some 23) rfl rfl Try.func25 (by kernel_rfl) rfl #[.string a0] rfl (by (try simp only [List.map_toArray, List.map_cons, List.map_nil]); first | done | rfl | (simp only [List.length_drop, List.length_take]; rfl)) ?_; (with_reducible refine (spec_ValidInterface.calls kj3 a0 true _ A9.out).mono ?_); rintro e w17 ⟨rfl, hb⟩; refine ⟨_, rfl, ?_⟩; have n0_ := Aside0.mk (below_step (by repeat (first | (with_reducible first | exact HB.out | apply below_alloc | apply pw_below_drewN | apply below_drew1) | exact HB.out)) hb); clear HB; have HB := n0_; clear n0_; (try clear hb); (try clear hb2); (try clear hk); (try clear hi)) | (go_at_call 25; (with_reducible refine (spec_ValidInterface.calls kj3 a1 false _ A11.out).mono ?_); rintro e w18 ⟨rfl, hb⟩; have n0_ := Aside0.mk (below_step (by repeat (first | (with_reducible first | exact HB.out | apply below_alloc | apply pw_below_drewN | apply below_drew1) | exact HB.out)) hb); clear HB; have HB := n0_; clear n0_; (try clear hb); (try clear hb2); (try clear hk); (try clear hi)))
              go_meet
              case rel => exact ⟨_, (true), (by first | rfl | (simp; done) | (simp [*]; done)), H', ⟨by have := HJ3.out; first | omega | exact Nat.le_refl _⟩, ⟨by repeat (first | (with_reducible first | exact HB.out | apply below_alloc | apply pw_below_drewN | apply below_drew1) | exact HB.out)⟩⟩
          · replace c10 := Bool.eq_false_iff.mpr c10
            subst c10
            have H1 : (laws_FnNmJoin.j1 kj3 a0 a1 a2 true) = some r := by rw [if_neg (show ¬ (false = true) by decide)] at H; exact H
            clear H
            have H := H1
            clear H1
            have H' := Aside0.mk H
            clear H
            go_wp2_with (first | ((with_reducible refine gate_callee (f := 25) rfl ?_); refine goesL_ (some 23) rfl rfl Try.func25 (by kernel_rfl) rfl #[.string a0] rfl (by (try simp only [List.map_toArray, List.map_cons, List.map_nil]); first | done | rfl | (simp only [List.length_drop, List.length_take]; rfl)) ?_; (with_reducible refine (spec_ValidInterface.calls kj3 a0 false _ A9.out).mono ?_); rintro e w19 ⟨rfl, hb⟩; refine ⟨_, rfl, ?_⟩; have n0_ := Aside0.mk (below_step (by repeat (first | (with_reducible first | exact HB.out | apply below_alloc | apply pw_below_drewN | apply below_drew1) | exact HB.out)) hb); clear HB; have HB := n0_; clear n0_; (try clear hb); (try clear hb2); (try clear hk); (try clear hi)))
            go_meet
            case rel => exact ⟨_, (true), (by first | rfl | (simp; done) | (simp [*]; done)), H', ⟨by have := HJ3.out; first | omega | exact Nat.le_refl _⟩, ⟨by repeat (first | (with_reducible first | exact HB.out | apply below_alloc | apply pw_below_drewN | apply below_drew1) | exact HB.out)⟩⟩
        case rest =>
          clear HC8
          try clear c1
          try clear c2
          try clear p2
          try clear c5
          try clear c5b0
          try clear c5b1
          try clear c6
          try clear c6b0
          try clear c6b1
          try clear c7
          try clear c10
          try clear c12
          try clear c13
          try clear p2
          obtain ⟨kq, x34_7, rfl, HA, HJ7, HB⟩ := hcut
          cases kq with
          | zero => exact absurd HA.out (by simp [laws_FnNmJoin.j1])
          | succ kj7 =>
            have H := HA.out
            clear HA
            simp only [laws_FnNmJoin.j1] at H
            by_cases c20 : x34_7 = true
            · subst c20
              have H1 : (some true) = some r := by rw [if_pos rfl] at H; exact H
              clear H
              have H := H1
              clear H1
              obtain rfl := Option.some.inj H
              go_wp2
              go_ret
              exact ⟨by first | rfl | (simp [errW_none, errW_some] <;> rfl) | (simp [*, errW_none, errW_some] <;> rfl), by repeat (first | (with_reducible first | exact HB.out | apply below_alloc | apply pw_below_drewN | apply below_drew1) | exact HB.out)⟩
            · replace c20 := Bool.eq_false_iff.mpr c20
              subst c20
              have H1 : (if a0.size + 1 ≤ 9223372036854775807 then (if (a0 ++ (⟨#[46]⟩ : ByteArray)).size + a1.size ≤ 9223372036854775807 then (if (a0 ++ (⟨#[46]⟩ : ByteArray)).size + a2.size ≤ 9223372036854775807 then ((impl_NmInterface.f ((a0 ++ (⟨#[46]⟩ : ByteArray)) ++ a1)).bind fun t134 => (if (t134 == (decide (((a0.size : Int) + 1 + (a1.size : Int)) ≤ 255))) = true then ((impl_NmInterface.f ((a0 ++ (⟨#[46]⟩ : ByteArray)) ++ a2)).bind fun t135 => (if (t135 == (decide (((a0.size : Int) + 1 + (a2.size : Int)) ≤ 255))) = true then ((impl_NmInterface.f a2).bind fun t136 => (if t136 = true then (some false) else ((impl_NmMember.f a0).bind fun t137 => (if t137 = true then (some false) else (if 1 + a2.size ≤ 9223372036854775807 then ((impl_NmInterface.f ((⟨#[46]⟩ : ByteArray) ++ a2)).bind fun t138 => (if t138 = true then (some false) else (if a2.size + 1 ≤ 9223372036854775807 then ((impl_NmInterface.f (a2 ++ (⟨#[46]⟩ : ByteArray))).bind fun t139 => (if t139 = true then (some false) else ((impl_NmMember.f a2).bind fun t140 => (some t140)))) else (none)))) else (none)))))) else (some false))) else (some false))) else (none)) else (none)) else (none)) = some r := by rw [if_neg (show ¬ (false = true) by decide)] at H; exact H
              clear H
              have H := H1
              clear H1
              by_cases c21 : a0.size + 1 ≤ 9223372036854775807
              · rw [if_pos c21] at H
                have c21b0 := eq_true c21
                have c21b1 : decide (a0.size + 1 ≤ 9223372036854775807) = true := decide_eq_true c21
                try have c21b2 : (9223372036854775807 < a0.size + 1) = False := eq_false (Nat.not_lt.2 c21)
                by_cases c22 : (a0 ++ (⟨#[46]⟩ : ByteArray)).size + a1.size ≤ 9223372036854775807
                · rw [if_pos c22] at H
                  have c22b0 := eq_true c22
                  have c22b1 : decide ((a0 ++ (⟨#[46]⟩ : ByteArray)).size + a1.size ≤ 9223372036854775807) = true := decide_eq_true c22
                  try have c22b2 : (9223372036854775807 < (a0 ++ (⟨#[46]⟩ : ByteArray)).size + a1.size) = False := eq_false (Nat.not_lt.2 c22)
                  by_cases c23 : (a0 ++ (⟨#[46]⟩ : ByteArray)).size + a2.size ≤ 9223372036854775807
                  · rw [if_pos c23] at H
                    have c23b0 := eq_true c23
                    have c23b1 : decide ((a0 ++ (⟨#[46]⟩ : ByteArray)).size + a2.size ≤ 9223372036854775807) = true := decide_eq_true c23
                    try have c23b2 : (9223372036854775807 < (a0 ++ (⟨#[46]⟩ : ByteArray)).size + a2.size) = False := eq_false (Nat.not_lt.2 c23)
                    replace H := Option.bind_eq_some_iff.mp H
                    obtain ⟨t134, A240, H⟩ := H
                    replace H : (if (t134 == (decide (((a0.size : Int) + 1 + (a1.size : Int)) ≤ 255))) = true then ((impl_NmInterface.f ((a0 ++ (⟨#[46]⟩ : ByteArray)) ++ a2)).bind fun t135 => (if (t135 == (decide (((a0.size : Int) + 1 + (a2.size : Int)) ≤ 255))) = true then ((impl_NmInterface.f a2).bind fun t136 => (if t136 = true then (some false) else ((impl_NmMember.f a0).bind fun t137 => (if t137 = true then (some false) else (if 1 + a2.size ≤ 9223372036854775807 then ((impl_NmInterface.f ((⟨#[46]⟩ : ByteArray) ++ a2)).bind fun t138 => (if t138 = true then (some false) else (if a2.size + 1 ≤ 9223372036854775807 then ((impl_NmInterface.f (a2 ++ (⟨#[46]⟩ : ByteArray))).bind fun t139 => (if t139 = true then (some false) else ((impl_NmMember.f a2).bind fun t140 => (some t140)))) else (none)))) else (none)))))) else (some false))) else (some false)) = some r := H
                    have A24 := Aside0.mk A240
                    clear A240
                    by_cases c25 : (t134 == (decide (((a0.size : Int) + 1 + (a1.size : Int)) ≤ 255))) = true
                    · rw [if_pos c25] at H
                      have c25b0 : (t134 == (decide (((a0.size : Int) + 1 + (a1.size : Int)) ≤ 255))) = true := c25
                      (try (have c25b1 : decide (t134 = (decide (((a0.size : Int) + 1 + (a1.size : Int)) ≤ 255))) = true := by simpa using c25))
                      (try (have c25b2 : (t134 == (decide (((a0.size : Int) + 1 + (a1.size : Int)) ≤ 255))) = true := by simpa using c25))
                      clear c25
                      replace H := Option.bind_eq_some_iff.mp H
                      obtain ⟨t135, A260, H⟩ := H
                      replace H : (if (t135 == (decide (((a0.size : Int) + 1 + (a2.size : Int)) ≤ 255))) = true then ((impl_NmInterface.f a2).bind fun t136 => (if t136 = true then (some false) else ((impl_NmMember.f a0).bind fun t137 => (if t137 = true then (some false) else (if 1 + a2.size ≤ 9223372036854775807 then ((impl_NmInterface.f ((⟨#[46]⟩ : ByteArray) ++ a2)).bind fun t138 => (if t138 = true then (some false) else (if a2.size + 1 ≤ 9223372036854775807 then ((impl_NmInterface.f (a2 ++ (⟨#[46]⟩ : ByteArray))).bind fun t139 => (if t139 = true then (some false) else ((impl_NmMember.f a2).bind fun t140 => (some t140)))) else (none)))) else (none)))))) else (some false)) = some r := H
                      have A26 := Aside0.mk A260
                      clear A260
                      by_cases c27 : (t135 == (decide (((a0.size : Int) + 1 + (a2.size : Int)) ≤ 255))) = true
                      · rw [if_pos c27] at H
                        have c27b0 : (t135 == (decide (((a0.size : Int) + 1 + (a2.size : Int)) ≤ 255))) = true := c27
                        (try (have c27b1 : decide (t135 = (decide (((a0.size : Int) + 1 + (a2.size : Int)) ≤ 255))) = true := by simpa using c27))
                        (try (have c27b2 : (t135 == (decide (((a0.size : Int) + 1 + (a2.size : Int)) ≤ 255))) = true := by simpa using c27))
                        clear c27
                        replace H := Option.bind_eq_some_iff.mp H
                        obtain ⟨t136, A280, H⟩ := H
                        replace H : (if t136 = true then (some false) else ((impl_NmMember.f a0).bind fun t137 => (if t137 = true then (some false) else (if 1 + a2.size ≤ 9223372036854775807 then ((impl_NmInterface.f ((⟨#[46]⟩ : ByteArray) ++ a2)).bind fun t138 => (if t138 = true then (some false) else (if a2.size + 1 ≤ 9223372036854775807 then ((impl_NmInterface.f (a2 ++ (⟨#[46]⟩ : ByteArray))).bind fun t139 => (if t139 = true then (some false) else ((impl_NmMember.f a2).bind fun t140 => (some t140)))) else (none)))) else (none))))) = some r := H
                        have A28 := Aside0.mk A280
                        clear A280
                        by_cases c29 : t136 = true
                        · subst c29
                          have H1 : (some false) = some r := by rw [if_pos rfl] at H; exact H
                          clear H
                          have H := H1
                          clear H1
                          obtain rfl := Option.some.inj H
                          go_wp2_with (first | ((with_reducible refine gate_callee (f := 24) rfl ?_); refine goesL_ (some 44) rfl rfl Try.func24 (by kernel_rfl) rfl #[.string ((a0 ++ (⟨#[46]⟩ : ByteArray)) ++ a1)] rfl (by (try simp only [List.map_toArray, List.map_cons, List.map_nil]); first | done | rfl | (simp only [List.length_drop, List.length_take]; rfl)) ?_; (with_reducible refine (impl_NmInterface.calls ((a0 ++ (⟨#[46]⟩ : ByteArray)) ++ a1) t134 _ A24.out).mono ?_); rintro e w30 ⟨rfl, hb⟩; refine ⟨_, rfl, ?_⟩; have n0_ := Aside0.mk (below_step (by repeat (first | (with_reducible first | exact HB.out | apply below_alloc | apply pw_below_drewN | apply below_drew1) | exact HB.out)) hb); clear HB; have HB := n0_; clear n0_; (try clear hb); (try clear hb2); (try clear hk); (try clear hi)) | (go_at_call 24; (with_reducible refine (impl_NmInterface.calls ((a0 ++ (⟨#[46]⟩ : ByteArray)) ++ a2) t135 _ A26.out).mono ?_); rintro e w31 ⟨rfl, hb⟩; have n0_ := Aside0.mk (below_step (by repeat (first | (with_reducible first | exact HB.out | apply below_alloc | apply pw_below_drewN | apply below_drew1) | exact HB.out)) hb); clear HB; have HB := n0_; clear n0_; (try clear hb); (try clear hb2); (try clear hk); (try clear hi)) | (go_at_call 24; (with_reducible refine (impl_NmInterface.calls a2 true _ A28.out).mono ?_); rintro e w32 ⟨rfl, hb⟩; have n0_ := Aside0.mk (below_step (by repeat (first | (with_reducible first | exact HB.out | apply below_alloc | apply pw_below_drewN | apply below_drew1) | exact HB.out)) hb); clear HB; have HB := n0_; clear n0_; (try clear hb); (try clear hb2); (try clear hk); (try clear hi)))
                          go_ret
                          exact ⟨by first | rfl | (simp [errW_none, errW_some] <;> rfl) | (simp [*, errW_none, errW_some] <;> rfl), by repeat (first | (with_reducible first | exact HB.out | apply below_alloc | apply pw_below_drewN | apply below_drew1) | exact HB.out)⟩
                        · replace c29 := Bool.eq_false_iff.mpr c29
                          subst c29
                          have H1 : ((impl_NmMember.f a0).bind fun t137 => (if t137 = true then (some false) else (if 1 + a2.size ≤ 9223372036854775807 then ((impl_NmInterface.f ((⟨#[46]⟩ : ByteArray) ++ a2)).bind fun t138 => (if t138 = true then (some false) else (if a2.size + 1 ≤ 9223372036854775807 then ((impl_NmInterface.f (a2 ++ (⟨#[46]⟩ : ByteArray))).bind fun t139 => (if t139 = true then (some false) else ((impl_NmMember.f a2).bind fun t140 => (some t140)))) else (none)))) else (none)))) = some r := by rw [if_neg (show ¬ (false = true) by decide)] at H; exact H
                          clear H
                          have H := H1
                          clear H1
                          replace H := Option.bind_eq_some_iff.mp H
                          obtain ⟨t137, A330, H⟩ := H
                          replace H : (if t137 = true then (some false) else (if 1 + a2.size ≤ 9223372036854775807 then ((impl_NmInterface.f ((⟨#[46]⟩ : ByteArray) ++ a2)).bind fun t138 => (if t138 = true then (some false) else (if a2.size + 1 ≤ 9223372036854775807 then ((impl_NmInterface.f (a2 ++ (⟨#[46]⟩ : ByteArray))).bind fun t139 => (if t139 = true then (some false) else ((impl_NmMember.f a2).bind fun t140 => (some t140)))) else (none)))) else (none))) = some r := H
                          have A33 := Aside0.mk A330
                          clear A330
                          by_cases c34 : t137 = true
                          · subst c34
                            have H1 : (some false) = some r := by rw [if_pos rfl] at H; exact H
                            clear H
                            have H := H1
                            clear H1
                            obtain rfl := Option.some.inj H
                            go_wp2_with (first | ((with_reducible refine gate_callee (f := 24) rfl ?_); refine goesL_ (some 44) rfl rfl Try.func24 (by kernel_rfl) rfl #[.string ((a0 ++ (⟨#[46]⟩ : ByteArray)) ++ a1)] rfl (by (try simp only [List.map_toArray, List.map_cons, List.map_nil]); first | done | rfl | (simp only [List.length_drop, List.length_take]; rfl)) ?_; (with_reducible refine (impl_NmInterface.calls ((a0 ++ (⟨#[46]⟩ : ByteArray)) ++ a1) t134 _ A24.out).mono ?_); rintro e w35 ⟨rfl, hb⟩; refine ⟨_, rfl, ?_⟩; have n0_ := Aside0.mk (below_step (by repeat (first | (with_reducible first | exact HB.out | apply below_alloc | apply pw_below_drewN | apply below_drew1) | exact HB.out)) hb); clear HB; have HB := n0_; clear n0_; (try clear hb); (try clear hb2); (try clear hk); (try clear hi)) | (go_at_call 24; (with_reducible refine (impl_NmInterface.calls ((a0 ++ (⟨#[46]⟩ : ByteArray)) ++ a2) t135 _ A26.out).mono ?_); rintro e w36 ⟨rfl, hb⟩; have n0_ := Aside0.mk (below_step (by repeat (first | (with_reducible first | exact HB.out | apply below_alloc | apply pw_below_drewN | apply below_drew1) | exact HB.out)) hb); clear HB; have HB := n0_; clear n0_; (try clear hb); (try clear hb2); (try clear hk); (try clear hi)) | (go_at_call 24; (with_reducible refine (impl_NmInterface.calls a2 false _ A28.out).mono ?_); rintro e w37 ⟨rfl, hb⟩; have n0_ := Aside0.mk (below_step (by repeat (first | (with_reducible first | exact HB.out | apply below_alloc | apply pw_below_drewN | apply below_drew1) | exact HB.out)) hb); clear HB; have HB := n0_; clear n0_; (try clear hb); (try clear hb2); (try clear hk); (try clear hi)) | (go_at_call 29; (with_reducible refine (impl_NmMember.calls a0 true _ A33.out).mono ?_); rintro e w38 ⟨rfl, hb⟩; have n0_ := Aside0.mk (below_step (by repeat (first | (with_reducible first | exact HB.out | apply below_alloc | apply pw_below_drewN | apply below_drew1) | exact HB.out)) hb); clear HB; have HB := n0_; clear n0_; (try clear hb); (try clear hb2); (try clear hk); (try clear hi)))
                            go_ret
                            exact ⟨by first | rfl | (simp [errW_none, errW_some] <;> rfl) | (simp [*, errW_none, errW_some] <;> rfl), by repeat (first | (with_reducible first | exact HB.out | apply below_alloc | apply pw_below_drewN | apply below_drew1) | exact HB.out)⟩
                          · replace c34 := Bool.eq_false_iff.mpr c34
                            subst c34
                            have H1 : (if 1 + a2.size ≤ 9223372036854775807 then ((impl_NmInterface.f ((⟨#[46]⟩ : ByteArray) ++ a2)).bind fun t138 => (if t138 = true then (some false) else (if a2.size + 1 ≤ 9223372036854775807 then ((impl_NmInterface.f (a2 ++ (⟨#[46]⟩ : ByteArray))).bind fun t139 => (if t139 = true then (some false) else ((impl_NmMember.f a2).bind fun t140 => (some t140)))) else (none)))) else (none)) = some r := by rw [if_neg (show ¬ (false = true) by decide)] at H; exact H
                            clear H
                            have H := H1
                            clear H1
                            by_cases c39 : 1 + a2.size ≤ 9223372036854775807
                            · rw [if_pos c39] at H
                              have c39b0 := eq_true c39
                              have c39b1 : decide (1 + a2.size ≤ 9223372036854775807) = true := decide_eq_true c39
                              try have c39b2 : (9223372036854775807 < 1 + a2.size) = False := eq_false (Nat.not_lt.2 c39)
                              replace H := Option.bind_eq_some_iff.mp H
                              obtain ⟨t138, A400, H⟩ := H
                              replace H : (if t138 = true then (some false) else (if a2.size + 1 ≤ 9223372036854775807 then ((impl_NmInterface.f (a2 ++ (⟨#[46]⟩ : ByteArray))).bind fun t139 => (if t139 = true then (some false) else ((impl_NmMember.f a2).bind fun t140 => (some t140)))) else (none))) = some r := H
                              have A40 := Aside0.mk A400
                              clear A400
                              by_cases c41 : t138 = true
                              · subst c41
                                have H1 : (some false) = some r := by rw [if_pos rfl] at H; exact H
                                clear H
                                have H := H1
                                clear H1
                                obtain rfl := Option.some.inj H
                                go_wp2_with (first | ((with_reducible refine gate_callee (f := 24) rfl ?_); refine goesL_ (some 44) rfl rfl Try.func24 (by kernel_rfl) rfl #[.string ((a0 ++ (⟨#[46]⟩ : ByteArray)) ++ a1)] rfl (by (try simp only [List.map_toArray, List.map_cons, List.map_nil]); first | done | rfl | (simp only [List.length_drop, List.length_take]; rfl)) ?_; (with_reducible refine (impl_NmInterface.calls ((a0 ++ (⟨#[46]⟩ : ByteArray)) ++ a1) t134 _ A24.out).mono ?_); rintro e w42 ⟨rfl, hb⟩; refine ⟨_, rfl, ?_⟩; have n0_ := Aside0.mk (below_step (by repeat (first | (with_reducible first | exact HB.out | apply below_alloc | apply pw_below_drewN | apply below_drew1) | exact HB.out)) hb); clear HB; have HB := n0_; clear n0_; (try clear hb); (try clear hb2); (try clear hk); (try clear hi)) | (go_at_call 24; (with_reducible refine (impl_NmInterface.calls ((a0 ++ (⟨#[46]⟩ : ByteArray)) ++ a2) t135 _ A26.out).mono ?_); rintro e w43 ⟨rfl, hb⟩; have n0_ := Aside0.mk (below_step (by repeat (first | (with_reducible first | exact HB.out | apply below_alloc | apply pw_below_drewN | apply below_drew1) | exact HB.out)) hb); clear HB; have HB := n0_; clear n0_; (try clear hb); (try clear hb2); (try clear hk); (try clear hi)) | (go_at_call 24; (with_reducible refine (impl_NmInterface.calls a2 false _ A28.out).mono ?_); rintro e w44 ⟨rfl, hb⟩; have n0_ := Aside0.mk (below_step (by repeat (first | (with_reducible first | exact HB.out | apply below_alloc | apply pw_below_drewN | apply below_drew1) | exact HB.out)) hb); clear HB; have HB := n0_; clear n0_; (try clear hb); (try clear hb2); (try clear hk); (try clear hi)) | (go_at_call 29; (with_reducible refine (impl_NmMember.calls a0 false _ A33.out).mono ?_); rintro e w45 ⟨rfl, hb⟩; have n0_ := Aside0.mk (below_step (by repeat (first | (with_reducible first | exact HB.out | apply below_alloc | apply pw_below_drewN | apply below_drew1) | exact HB.out)) hb); clear HB; have HB := n0_; clear n0_; (try clear hb); (try clear hb2); (try clear hk); (try clear hi)) | (go_at_call 24; (with_reducible refine (impl_NmInterface.calls ((⟨#[46]⟩ : ByteArray) ++ a2) true _ A40.out).mono ?_); rintro e w46 ⟨rfl, hb⟩; have n0_ := Aside0.mk (below_step (by repeat (first | (with_reducible first | exact HB.out | apply below_alloc | apply pw_below_drewN | apply below_drew1) | exact HB.out)) hb); clear HB; have HB := n0_; clear n0_; (try clear hb); (try clear hb2); (try clear hk); (try clear hi)))
                                go_ret
                                exact ⟨by first | rfl | (simp [errW_none, errW_some] <;> rfl) | (simp [*, errW_none, errW_some] <;> rfl), by repeat (first | (with_reducible first | exact HB.out | apply below_alloc | apply pw_below_drewN | apply below_drew1) | exact HB.out)⟩
                              · replace c41 := Bool.eq_false_iff.mpr c41
                                subst c41
                                have H1 : (if a2.size + 1 ≤ 9223372036854775807 then ((impl_NmInterface.f (a2 ++ (⟨#[46]⟩ : ByteArray))).bind fun t139 => (if t139 = true then (some false) else ((impl_NmMember.f a2).bind fun t140 => (some t140)))) else (none)) = some r := by rw [if_neg (show ¬ (false = true) by decide)] at H; exact H
                                clear H
                                have H := H1
                                clear H1
                                by_cases c47 : a2.size + 1 ≤ 9223372036854775807
                                · rw [if_pos c47] at H
                                  have c47b0 := eq_true c47
                                  have c47b1 : decide (a2.size + 1 ≤ 9223372036854775807) = true := decide_eq_true c47
                                  try have c47b2 : (9223372036854775807 < a2.size + 1) = False := eq_false (Nat.not_lt.2 c47)
                                  replace H := Option.bind_eq_some_iff.mp H
                                  obtain ⟨t139, A480, H⟩ := H
                                  replace H : (if t139 = true then (some false) else ((impl_NmMember.f a2).bind fun t140 => (some t140))) = some r := H
                                  have A48 := Aside0.mk A480
                                  clear A480
                                  by_cases c49 : t139 = true
                                  · subst c49
                                    have H1 : (some false) = some r := by rw [if_pos rfl] at H; exact H
                                    clear H
                                    have H := H1
                                    clear H1
                                    obtain rfl := Option.some.inj H
                                    go_wp2_with (first | ((with_reducible refine gate_callee (f := 24) rfl ?_); refine goesL_ (some 44) rfl rfl Try.func24 (by kernel_rfl) rfl #[.string ((a0 ++ (⟨#[46]⟩ : ByteArray)) ++ a1)] rfl (by (try simp only [List.map_toArray, List.map_cons, List.map_nil]); first | done | rfl | (simp only [List.length_drop, List.length_take]; rfl)) ?_; (with_reducible refine (impl_NmInterface.calls ((a0 ++ (⟨#[46]⟩ : ByteArray)) ++ a1) t134 _ A24.out).mono ?_); rintro e w50 ⟨rfl, hb⟩; refine ⟨_, rfl, ?_⟩; have n0_ := Aside0.mk (below_step (by repeat (first | (with_reducible first | exact HB.out | apply below_alloc | apply pw_below_drewN | apply below_drew1) | exact HB.out)) hb); clear HB; have HB := n0_; clear n0_; (try clear hb); (try clear hb2); (try clear hk); (try clear hi)) | (go_at_call 24; (with_reducible refine (impl_NmInterface.calls ((a0 ++ (⟨#[46]⟩ : ByteArray)) ++ a2) t135 _ A26.out).mono ?_); rintro e w51 ⟨rfl, hb⟩; have n0_ := Aside0.mk (below_step (by repeat (first | (with_reducible first | exact HB.out | apply below_alloc | apply pw_below_drewN | apply below_drew1) | exact HB.out)) hb); clear HB; have HB := n0_; clear n0_; (try clear hb); (try clear hb2); (try clear hk); (try clear hi)) | (go_at_call 24; (with_reducible refine (impl_NmInterface.calls a2 false _ A28.out).mono ?_); rintro e w52 ⟨rfl, hb⟩; have n0_ := Aside0.mk (below_step (by repeat (first | (with_reducible first | exact HB.out | apply below_alloc | apply pw_below_drewN | apply below_drew1) | exact HB.out)) hb); clear HB; have HB := n0_; clear n0_; (try clear hb); (try clear hb2); (try clear hk); (try clear hi)) | (go_at_call 29; (with_reducible refine (impl_NmMember.calls a0 false _ A33.out).mono ?_); rintro e w53 ⟨rfl, hb⟩; have n0_ := Aside0.mk (below_step (by repeat (first | (with_reducible first | exact HB.out | apply below_alloc | apply pw_below_drewN | apply below_drew1) | exact HB.out)) hb); clear HB; have HB := n0_; clear n0_; (try clear hb); (try clear hb2); (try clear hk); (try clear hi)) | (go_at_call 24; (with_reducible refine (impl_NmInterface.calls ((⟨#[46]⟩ : ByteArray) ++ a2) false _ A40.out).mono ?_); rintro e w54 ⟨rfl, hb⟩; have n0_ := Aside0.mk (below_step (by repeat (first | (with_reducible first | exact HB.out | apply below_alloc | apply pw_below_drewN | apply below_drew1) | exact HB.out)) hb); clear HB; have HB := n0_; clear n0_; (try clear hb); (try clear hb2); (try clear hk); (try clear hi)) | (go_at_call 24; (with_reducible refine (impl_NmInterface.calls (a2 ++ (⟨#[46]⟩ : ByteArray)) true _ A48.out).mono ?_); rintro e w55 ⟨rfl, hb⟩; have n0_ := Aside0.mk (below_step (by repeat (first | (with_reducible first | exact HB.out | apply below_alloc | apply pw_below_drewN | apply below_drew1) | exact HB.out)) hb); clear HB; have HB := n0_; clear n0_; (try clear hb); (try clear hb2); (try clear hk); (try clear hi)))
                                    go_ret
                                    exact ⟨by first | rfl | (simp [errW_none, errW_some] <;> rfl) | (simp [*, errW_none, errW_some] <;> rfl), by repeat (first | (with_reducible first | exact HB.out | apply below_alloc | apply pw_below_drewN | apply below_drew1) | exact HB.out)⟩
                                  · replace c49 := Bool.eq_false_iff.mpr c49
                                    subst c49
                                    have H1 : ((impl_NmMember.f a2).bind fun t140 => (some t140)) = some r := by rw [if_neg (show ¬ (false = true) by decide)] at H; exact H
                                    clear H
                                    have H := H1
                                    clear H1
                                    replace H := Option.bind_eq_some_iff.mp H
                                    obtain ⟨t140, A560, H⟩ := H
                                    replace H : (some t140) = some r := H
                                    have A56 := Aside0.mk A560
                                    clear A560
                                    obtain rfl := Option.some.inj H
                                    go_wp2_with (first | ((with_reducible refine gate_callee (f := 24) rfl ?_); refine goesL_ (some 44) rfl rfl Try.func24 (by kernel_rfl) rfl #[.string ((a0 ++ (⟨#[46]⟩ : ByteArray)) ++ a1)] rfl (by (try simp only [List.map_toArray, List.map_cons, List.map_nil]); first | done | rfl | (simp only [List.length_drop, List.length_take]; rfl)) ?_; (with_reducible refine (impl_NmInterface.calls ((a0 ++ (⟨#[46]⟩ : ByteArray)) ++ a1) t134 _ A24.out).mono ?_); rintro e w57 ⟨rfl, hb⟩; refine ⟨_, rfl, ?_⟩; have n0_ := Aside0.mk (below_step (by repeat (first | (with_reducible first | exact HB.out | apply below_alloc | apply pw_below_drewN | apply below_drew1) | exact HB.out)) hb); clear HB; have HB := n0_; clear n0_; (try clear hb); (try clear hb2); (try clear hk); (try clear hi)) | (go_at_call 24; (with_reducible refine (impl_NmInterface.calls ((a0 ++ (⟨#[46]⟩ : ByteArray)) ++ a2) t135 _ A26.out).mono ?_); rintro e w58 ⟨rfl, hb⟩; have n0_ := Aside0.mk (below_step (by repeat (first | (with_reducible first | exact HB.out | apply below_alloc | apply pw_below_drewN | apply below_drew1) | exact HB.out)) hb); clear HB; have HB := n0_; clear n0_; (try clear hb); (try clear hb2); (try clear hk); (try clear hi)) | (go_at_call 24; (with_reducible refine (impl_NmInterface.calls a2 false _ A28.out).mono ?_); rintro e w59 ⟨rfl, hb⟩; have n0_ := Aside0.mk (below_step (by repeat (first | (with_reducible first | exact HB.out | apply below_alloc | apply pw_below_drewN | apply below_drew1) | exact HB.out)) hb); clear HB; have HB := n0_; clear n0_; (try clear hb); (try clear hb2); (try clear hk); (try clear hi)) | (go_at_call 29; (with_reducible refine (impl_NmMember.calls a0 false _ A33.out).mono ?_); rintro e w60 ⟨rfl, hb⟩; have n0_ := Aside0.mk (below_step (by repeat (first | (with_reducible first | exact HB.out | apply below_alloc | apply pw_below_drewN | apply below_drew1) | exact HB.out)) hb); clear HB; have HB := n0_; clear n0_; (try clear hb); (try clear hb2); (try clear hk); (try clear hi)) | (go_at_call 24; (with_reducible refine (impl_NmInterface.calls ((⟨#[46]⟩ : ByteArray) ++ a2) false _ A40.out).mono ?_); rintro e w61 ⟨rfl, hb⟩; have n0_ := Aside0.mk (below_step (by repeat (first | (with_reducible first | exact HB.out | apply below_alloc | apply pw_below_drewN | apply below_drew1) | exact HB.out)) hb); clear HB; have HB := n0_; clear n0_; (try clear hb); (try clear hb2); (try clear hk); (try clear hi)) | (go_at_call 24; (with_reducible refine (impl_NmInterface.calls (a2 ++ (⟨#[46]⟩ : ByteArray)) false _ A48.out).mono ?_); rintro e w62 ⟨rfl, hb⟩; have n0_ := Aside0.mk (below_step (by repeat (first | (with_reducible first | exact HB.out | apply below_alloc | apply pw_below_drewN | apply below_drew1) | exact HB.out)) hb); clear HB; have HB := n0_; clear n0_; (try clear hb); (try clear hb2); (try clear hk); (try clear hi)) | (go_at_call 29; (with_reducible refine (impl_NmMember.calls a2 t140 _ A56.out).mono ?_); rintro e w63 ⟨rfl, hb⟩; have n0_ := Aside0.mk (below_step (by repeat (first | (with_reducible first | exact HB.out | apply below_alloc | apply pw_below_drewN | apply below_drew1) | exact HB.out)) hb); clear HB; have HB := n0_; clear n0_; (try clear hb); (try clear hb2); (try clear hk); (try clear hi)))
                                    go_ret
                                    exact ⟨by first | rfl | (simp [errW_none, errW_some] <;> rfl) | (simp [*, errW_none, errW_some] <;> rfl), by repeat (first | (with_reducible first | exact HB.out | apply below_alloc | apply pw_below_drewN | apply below_drew1) | exact HB.out)⟩
                                · rw [if_neg c47] at H
                                  exact absurd H (by simp)
                            · rw [if_neg c39] at H
                              exact absurd H (by simp)
                      · rw [if_neg c27] at H
                        have c27b0 : (t135 == (decide (((a0.size : Int) + 1 + (a2.size : Int)) ≤ 255))) = false := by simpa using c27
                        (try (have c27b1 : decide (t135 = (decide (((a0.size : Int) + 1 + (a2.size : Int)) ≤ 255))) = false := by simpa using c27))
                        (try (have c27b2 : (t135 == (decide (((a0.size : Int) + 1 + (a2.size : Int)) ≤ 255))) = false := by simpa using c27))
                        (try (have c27b3 : ¬ (t135 = (decide (((a0.size : Int) + 1 + (a2.size : Int)) ≤ 255))) := by simpa using c27))
                        clear c27
                        obtain rfl := Option.some.inj H
                        go_wp2_with (first | ((with_reducible refine gate_callee (f := 24) rfl ?_); refine goesL_ (some 44) rfl rfl Try.func24 (by kernel_rfl) rfl #[.string ((a0 ++ (⟨#[46]⟩ : ByteArray)) ++ a1)] rfl (by (try simp only [List.map_toArray, List.map_cons, List.map_nil]); first | done | rfl | (simp only [List.length_drop, List.length_take]; rfl)) ?_; (with_reducible refine (impl_NmInterface.calls ((a0 ++ (⟨#[46]⟩ : ByteArray)) ++ a1) t134 _ A24.out).mono ?_); rintro e w64 ⟨rfl, hb⟩; refine ⟨_, rfl, ?_⟩; have n0_ := Aside0.mk (below_step (by repeat (first | (with_reducible first | exact HB.out | apply below_alloc | apply pw_below_drewN | apply below_drew1) | exact HB.out)) hb); clear HB; have HB := n0_; clear n0_; (try clear hb); (try clear hb2); (try clear hk); (try clear hi)) | (go_at_call 24; (with_reducible refine (impl_NmInterface.calls ((a0 ++ (⟨#[46]⟩ : ByteArray)) ++ a2) t135 _ A26.out).mono ?_); rintro e w65 ⟨rfl, hb⟩; have n0_ := Aside0.mk (below_step (by repeat (first | (with_reducible first | exact HB.out | apply below_alloc | apply pw_below_drewN | apply below_drew1) | exact HB.out)) hb); clear HB; have HB := n0_; clear n0_; (try clear hb); (try clear hb2); (try clear hk); (try clear hi)))
                        go_ret
                        exact ⟨by first | rfl | (simp [errW_none, errW_some] <;> rfl) | (simp [*, errW_none, errW_some] <;> rfl), by repeat (first | (with_reducible first | exact HB.out | apply below_alloc | apply pw_below_drewN | apply below_drew1) | exact HB.out)⟩
                    · rw [if_neg c25] at H
                      have c25b0 : (t134 == (decide (((a0.size : Int) + 1 + (a1.size : Int)) ≤ 255))) = false := by simpa using c25
                      (try (have c25b1 : decide (t134 = (decide (((a0.size : Int) + 1 + (a1.size : Int)) ≤ 255))) = false := by simpa using c25))
                      (try (have c25b2 : (t134 == (decide (((a0.size : Int) + 1 + (a1.size : Int)) ≤ 255))) = false := by simpa using c25))
                      (try (have c25b3 : ¬ (t134 = (decide (((a0.size : Int) + 1 + (a1.size : Int)) ≤ 255))) := by simpa using c25))
                      clear c25
                      obtain rfl := Option.some.inj H
                      go_wp2_with (first | ((with_reducible refine gate_callee (f := 24) rfl ?_); refine goesL_ (some 44) rfl rfl Try.func24 (by kernel_rfl) rfl #[.string ((a0 ++ (⟨#[46]⟩ : ByteArray)) ++ a1)] rfl (by (try simp only [List.map_toArray, List.map_cons, List.map_nil]); first | done | rfl | (simp only [List.length_drop, List.length_take]; rfl)) ?_; (with_reducible refine (impl_NmInterface.calls ((a0 ++ (⟨#[46]⟩ : ByteArray)) ++ a1) t134 _ A24.out).mono ?_); rintro e w66 ⟨rfl, hb⟩; refine ⟨_, rfl, ?_⟩; have n0_ := Aside0.mk (below_step (by repeat (first | (with_reducible first | exact HB.out | apply below_alloc | apply pw_below_drewN | apply below_drew1) | exact HB.out)) hb); clear HB; have HB := n0_; clear n0_; (try clear hb); (try clear hb2); (try clear hk); (try clear hi)))
                      go_ret
                      exact ⟨by first | rfl | (simp [errW_none, errW_some] <;> rfl) | (simp [*, errW_none, errW_some] <;> rfl), by repeat (first | (with_reducible first | exact HB.out | apply below_alloc | apply pw_below_drewN | apply below_drew1) | exact HB.out)⟩
                  · rw [if_neg c23] at H
                    exact absurd H (by simp)
                · rw [if_neg c22] at H
                  exact absurd H (by simp)
              · rw [if_neg c21] at H
                exact absurd H (by simp)

/-- THE ONE PURE STATEMENT of laws_FnNmJoin: yours. -/
def laws_FnNmJoin.Pure : Prop := ∀ (a0 : ByteArray) (a1 : ByteArray) (a2 : ByteArray), a0.size ≤ 140737488351232 → a1.size ≤ 140737488351232 → a2.size ≤ 140737488351232 → ∃ k, laws_FnNmJoin.f k a0 a1 a2 = some true
theorem laws_FnNmJoin.walk (P : laws_FnNmJoin.Pure) (a0 : ByteArray) (a1 : ByteArray) (a2 : ByteArray) (w : World) (w0 : a0.size ≤ 140737488351232) (w1 : a1.size ≤ 140737488351232) (w2 : a2.size ≤ 140737488351232) :
    Calls Try.prog 13 #[.string a0, .string a1, .string a2] w fun e w' => e = .returned (.bool true) ∧ Below w.heap.size w w' := by
  obtain ⟨k, h⟩ := P a0 a1 a2 w0 w1 w2
  refine (laws_FnNmJoin.calls k a0 a1 a2 true w h).mono ?_
  rintro e w' ⟨rfl, hd⟩
  exact ⟨rfl, hd⟩

/-! ### laws_sgRepeat: function 30 -/
def laws_sgRepeat.l0 : Nat → ByteArray → Int → ByteArray → Option (ByteArray)
  | 0, _, _, _ => none
  | k + 1, x0, x1, x5 => if x1 > 0 then (if x5.size + x0.size ≤ 9223372036854775807 then (laws_sgRepeat.l0 k x0 (wrap64 (x1 - 1)) (x5 ++ x0)) else (none)) else (some x5)
def laws_sgRepeat.f (k : Nat) (a0 : ByteArray) (a1 : Int) : Option (ByteArray) := laws_sgRepeat.l0 k a0 a1 (⟨#[]⟩ : ByteArray)
theorem laws_sgRepeat.mono_l : ∀ k, (∀ y0 y1 y2, LeO (laws_sgRepeat.l0 k y0 y1 y2) (laws_sgRepeat.l0 (k + 1) y0 y1 y2))
  | 0 => fun _ _ _ r h => by simp [laws_sgRepeat.l0] at h
  | k + 1 => by
    have ih0 := laws_sgRepeat.mono_l k
    · intro y0 y1 y2
      unfold laws_sgRepeat.l0
      repeat' first
      | (with_reducible exact ih0 _ _ _)
      | (with_reducible exact LeO.refl _)
      | (with_reducible exact LeO.none _)
      | (with_reducible refine LeO.ite ?_ ?_)
      | (with_reducible refine LeO.bind ?_ (fun _ => ?_))
      | exact ih0 _ _ _
      | exact LeO.none _
      | refine LeO.ite ?_ ?_
      | refine LeO.bind ?_ (fun _ => ?_)
theorem laws_sgRepeat.mono : ∀ a0 a1 k, LeO (laws_sgRepeat.f k a0 a1) (laws_sgRepeat.f (k + 1) a0 a1) := by
  intro a0 a1 k
  have ih0 := laws_sgRepeat.mono_l k
  unfold laws_sgRepeat.f
  repeat' first
      | (with_reducible exact ih0 _ _ _)
      | (with_reducible exact LeO.refl _)
      | (with_reducible exact LeO.none _)
      | (with_reducible refine LeO.ite ?_ ?_)
      | (with_reducible refine LeO.bind ?_ (fun _ => ?_))
      | exact ih0 _ _ _
      | exact LeO.none _
      | refine LeO.ite ?_ ?_
      | refine LeO.bind ?_ (fun _ => ?_)
set_option maxHeartbeats 8000000 in
set_option maxRecDepth 100000 in
theorem laws_sgRepeat.calls (k : Nat) (a0 : ByteArray) (a1 : Int) (r : ByteArray) (w : World) (h : laws_sgRepeat.f k a0 a1 = some r) :
    Calls Try.prog 30 #[.string a0, .int .i64 a1] w fun e w' => e = .returned (.string r) ∧ Drawn0 w w' := by
  have H : (laws_sgRepeat.l0 k a0 a1 (⟨#[]⟩ : ByteArray)) = some r := h
  clear h
  have H' := Aside0.mk H
  clear H
  go_enter Try.func30, Try.ntmps30
  go_wp2
  go_loopg [1, 5] k (fun kq v1 v5 w' => ∃ (x1_1 : Int) (x5_1 : ByteArray), v1 = .int .i64 x1_1 ∧ v5 = .string x5_1 ∧ Aside0 (laws_sgRepeat.l0 kq a0 x1_1 x5_1 = some r) ∧ Aside0 (kq ≤ k) ∧ Drawn0 w w')
  case atStart => exact ⟨(a1), ((⟨#[]⟩ : ByteArray)), (by first | rfl | (simp; done) | (simp [*]; done)), (by first | rfl | (simp; done) | (simp [*]; done)), H', ⟨Nat.le_refl _⟩, by repeat (first | exact Drawn0.refl _ | apply Drawn0.step)⟩
  case round =>
    clear H'
    try clear p2
    obtain ⟨x1_1, x5_1, rfl, rfl, HA, HK1, ⟨m1, rfl⟩⟩ := hrel
    cases gk with
    | zero => exact absurd HA.out (by simp [laws_sgRepeat.l0])
    | succ k1 =>
      have H := HA.out
      clear HA
      simp only [laws_sgRepeat.l0] at H
      by_cases c3 : x1_1 > 0
      · rw [if_pos c3] at H
        have c3b0 : decide (0 < x1_1) = true := decide_eq_true c3
        clear c3
        by_cases c4 : x5_1.size + a0.size ≤ 9223372036854775807
        · rw [if_pos c4] at H
          have c4b0 := eq_true c4
          have c4b1 : decide (x5_1.size + a0.size ≤ 9223372036854775807) = true := decide_eq_true c4
          try have c4b2 : (9223372036854775807 < x5_1.size + a0.size) = False := eq_false (Nat.not_lt.2 c4)
          have H' := Aside0.mk H
          clear H
          go_wp2
          go_roundg k1
          case measure => have := HK1.out; omega
          case rel => exact ⟨(wrap64 (x1_1 - 1)), (x5_1 ++ a0), (by first | rfl | (simp; done) | (simp [*]; done)), (by first | rfl | (simp; done) | (simp [*]; done)), H', ⟨by have := HK1.out; omega⟩, by repeat (first | exact Drawn0.refl _ | apply Drawn0.step)⟩
        · rw [if_neg c4] at H
          exact absurd H (by simp)
      · rw [if_neg c3] at H
        have c3b0 : decide (0 < x1_1) = false := decide_eq_false c3
        clear c3
        obtain rfl := Option.some.inj H
        go_wp2
        go_ret
        exact ⟨by first | rfl | (simp; done) | (simp [*]; done), by repeat (first | exact Drawn0.refl _ | apply Drawn0.step)⟩

/-! ### laws_FnNmLengths: function 14 -/
def laws_FnNmLengths.j0 : Nat → Int → Bool → Option (Bool)
  | 0, _, _ => none
  | k + 1, x0, x9 => if x9 = true then (some true) else ((laws_sgRepeat.f k (⟨#[97]⟩ : ByteArray) (wrap64 (x0))).bind fun t141 => ((impl_NmMember.f t141).bind fun t142 => (if (t142 == (decide (x0 ≤ 255))) = true then (if 2 ≤ (t141.size : Int) then (if 2 + (t141.size - 2) ≤ 9223372036854775807 then ((impl_NmInterface.f ((⟨#[97, 46]⟩ : ByteArray) ++ (t141.extract 2 t141.size))).bind fun t143 => (if (t143 == (decide (x0 ≤ 255))) = true then (if 1 ≤ (t141.size : Int) then (if 1 + (t141.size - 1) ≤ 9223372036854775807 then ((impl_NmPath.f ((⟨#[47]⟩ : ByteArray) ++ (t141.extract 1 t141.size))).bind fun t144 => (some t144)) else (none)) else (none)) else (some false))) else (none)) else (none)) else (some false))))
def laws_FnNmLengths.f (k : Nat) (a0 : Int) : Option (Bool) := if a0 < 4 then (laws_FnNmLengths.j0 k a0 true) else (laws_FnNmLengths.j0 k a0 (decide (a0 > 1000)))
theorem laws_FnNmLengths.mono_l : ∀ k, (∀ y0 y1, LeO (laws_FnNmLengths.j0 k y0 y1) (laws_FnNmLengths.j0 (k + 1) y0 y1))
  | 0 => fun _ _ r h => by simp [laws_FnNmLengths.j0] at h
  | k + 1 => by
    have ih0 := laws_FnNmLengths.mono_l k
    · intro y0 y1
      unfold laws_FnNmLengths.j0
      repeat' first
      | (with_reducible exact ih0 _ _)
      | (with_reducible exact laws_sgRepeat.mono _ _ _)
      | (with_reducible exact LeO.refl _)
      | (with_reducible exact LeO.none _)
      | (with_reducible refine LeO.ite ?_ ?_)
      | (with_reducible refine LeO.bind ?_ (fun _ => ?_))
      | exact ih0 _ _
      | exact laws_sgRepeat.mono _ _ _
      | exact LeO.none _
      | refine LeO.ite ?_ ?_
      | refine LeO.bind ?_ (fun _ => ?_)
theorem laws_FnNmLengths.mono : ∀ a0 k, LeO (laws_FnNmLengths.f k a0) (laws_FnNmLengths.f (k + 1) a0) := by
  intro a0 k
  have ih0 := laws_FnNmLengths.mono_l k
  unfold laws_FnNmLengths.f
  repeat' first
      | (with_reducible exact ih0 _ _)
      | (with_reducible exact laws_sgRepeat.mono _ _ _)
      | (with_reducible exact LeO.refl _)
      | (with_reducible exact LeO.none _)
      | (with_reducible refine LeO.ite ?_ ?_)
      | (with_reducible refine LeO.bind ?_ (fun _ => ?_))
      | exact ih0 _ _
      | exact laws_sgRepeat.mono _ _ _
      | exact LeO.none _
      | refine LeO.ite ?_ ?_
      | refine LeO.bind ?_ (fun _ => ?_)
set_option maxHeartbeats 8000000 in
set_option maxRecDepth 100000 in
theorem laws_FnNmLengths.calls (k : Nat) (a0 : Int) (r : Bool) (w : World) (h : laws_FnNmLengths.f k a0 = some r) :
    Calls Try.prog 14 #[.int .u16 a0] w fun e w' => e = .returned (.bool r) ∧ Below w.heap.size w w' := by
  have HB := Aside0.mk (Below.refl w.heap.size w)
  have H : (if a0 < 4 then (laws_FnNmLengths.j0 k a0 true) else (laws_FnNmLengths.j0 k a0 (decide (a0 > 1000)))) = some r := h
  clear h
  have HC2 := Aside0.mk H
  clear H
  go_enter Try.func14, Try.ntmps14
  go_upto_region 1 with (fail)
  go_cut [9] (fun v9 wc => ∃ (kq : Nat) (x9_1 : Bool), v9 = .bool x9_1 ∧ Aside0 (laws_FnNmLengths.j0 kq a0 x9_1 = some r) ∧ Aside0 (kq ≤ k) ∧ Aside0 (Below w.heap.size w wc))
  case first =>
    have H := HC2.out
    clear HC2
    by_cases c3 : a0 < 4
    · rw [if_pos c3] at H
      have c3b0 : decide (a0 < 4) = true := decide_eq_true c3
      clear c3
      (first | rw [c3b0] | (simp only [i64_w, i32_w]; rw [c3b0]) | skip)
      have H' := Aside0.mk H
      clear H
      go_wp2
      go_meet
      case rel => exact ⟨_, (true), (by first | rfl | (simp; done) | (simp [*]; done)), H', ⟨by first | omega | exact Nat.le_refl _⟩, ⟨by repeat (first | (with_reducible first | exact HB.out | apply below_alloc | apply pw_below_drewN | apply below_drew1) | exact HB.out)⟩⟩
    · rw [if_neg c3] at H
      have c3b0 : decide (a0 < 4) = false := decide_eq_false c3
      clear c3
      (first | rw [c3b0] | (simp only [i64_w, i32_w]; rw [c3b0]) | skip)
      have H' := Aside0.mk H
      clear H
      go_wp2
      go_meet
      case rel => exact ⟨_, (decide (a0 > 1000)), (by first | rfl | (simp; done) | (simp [*]; done)), H', ⟨by first | omega | exact Nat.le_refl _⟩, ⟨by repeat (first | (with_reducible first | exact HB.out | apply below_alloc | apply pw_below_drewN | apply below_drew1) | exact HB.out)⟩⟩
  case rest =>
    clear HC2
    try clear c1
    try clear p2
    try clear c3
    try clear c3b0
    obtain ⟨kq, x9_1, rfl, HA, HJ1, HB⟩ := hcut
    cases kq with
    | zero => exact absurd HA.out (by simp [laws_FnNmLengths.j0])
    | succ kj1 =>
      have H := HA.out
      clear HA
      simp only [laws_FnNmLengths.j0] at H
      by_cases c4 : x9_1 = true
      · subst c4
        have H1 : (some true) = some r := by rw [if_pos rfl] at H; exact H
        clear H
        have H := H1
        clear H1
        obtain rfl := Option.some.inj H
        go_wp2
        go_ret
        exact ⟨by first | rfl | (simp [errW_none, errW_some] <;> rfl) | (simp [*, errW_none, errW_some] <;> rfl), by repeat (first | (with_reducible first | exact HB.out | apply below_alloc | apply pw_below_drewN | apply below_drew1) | exact HB.out)⟩
      · replace c4 := Bool.eq_false_iff.mpr c4
        subst c4
        have H1 : ((laws_sgRepeat.f kj1 (⟨#[97]⟩ : ByteArray) (wrap64 (a0))).bind fun t141 => ((impl_NmMember.f t141).bind fun t142 => (if (t142 == (decide (a0 ≤ 255))) = true then (if 2 ≤ (t141.size : Int) then (if 2 + (t141.size - 2) ≤ 9223372036854775807 then ((impl_NmInterface.f ((⟨#[97, 46]⟩ : ByteArray) ++ (t141.extract 2 t141.size))).bind fun t143 => (if (t143 == (decide (a0 ≤ 255))) = true then (if 1 ≤ (t141.size : Int) then (if 1 + (t141.size - 1) ≤ 9223372036854775807 then ((impl_NmPath.f ((⟨#[47]⟩ : ByteArray) ++ (t141.extract 1 t141.size))).bind fun t144 => (some t144)) else (none)) else (none)) else (some false))) else (none)) else (none)) else (some false)))) = some r := by rw [if_neg (show ¬ (false = true) by decide)] at H; exact H
        clear H
        have H := H1
        clear H1
        replace H := Option.bind_eq_some_iff.mp H
        obtain ⟨t141, A50, H⟩ := H
        replace H : ((impl_NmMember.f t141).bind fun t142 => (if (t142 == (decide (a0 ≤ 255))) = true then (if 2 ≤ (t141.size : Int) then (if 2 + (t141.size - 2) ≤ 9223372036854775807 then ((impl_NmInterface.f ((⟨#[97, 46]⟩ : ByteArray) ++ (t141.extract 2 t141.size))).bind fun t143 => (if (t143 == (decide (a0 ≤ 255))) = true then (if 1 ≤ (t141.size : Int) then (if 1 + (t141.size - 1) ≤ 9223372036854775807 then ((impl_NmPath.f ((⟨#[47]⟩ : ByteArray) ++ (t141.extract 1 t141.size))).bind fun t144 => (some t144)) else (none)) else (none)) else (some false))) else (none)) else (none)) else (some false))) = some r := H
        have A5 := Aside0.mk A50
        clear A50
        replace H := Option.bind_eq_some_iff.mp H
        obtain ⟨t142, A60, H⟩ := H
        replace H : (if (t142 == (decide (a0 ≤ 255))) = true then (if 2 ≤ (t141.size : Int) then (if 2 + (t141.size - 2) ≤ 9223372036854775807 then ((impl_NmInterface.f ((⟨#[97, 46]⟩ : ByteArray) ++ (t141.extract 2 t141.size))).bind fun t143 => (if (t143 == (decide (a0 ≤ 255))) = true then (if 1 ≤ (t141.size : Int) then (if 1 + (t141.size - 1) ≤ 9223372036854775807 then ((impl_NmPath.f ((⟨#[47]⟩ : ByteArray) ++ (t141.extract 1 t141.size))).bind fun t144 => (some t144)) else (none)) else (none)) else (some false))) else (none)) else (none)) else (some false)) = some r := H
        have A6 := Aside0.mk A60
        clear A60
        by_cases c7 : (t142 == (decide (a0 ≤ 255))) = true
        · rw [if_pos c7] at H
          have c7b0 : (t142 == (decide (a0 ≤ 255))) = true := c7
          (try (have c7b1 : decide (t142 = (decide (a0 ≤ 255))) = true := by simpa using c7))
          (try (have c7b2 : (t142 == (decide (a0 ≤ 255))) = true := by simpa using c7))
          clear c7
          by_cases c8 : 2 ≤ (t141.size : Int)
          · rw [if_pos c8] at H
            have c8b0 := eq_true c8
            have c8b1 : decide (2 ≤ (t141.size : Int)) = true := decide_eq_true c8
            clear c8
            by_cases c9 : 2 + (t141.size - 2) ≤ 9223372036854775807
            · rw [if_pos c9] at H
              have c9b0 := eq_true c9
              have c9b1 : decide (2 + (t141.size - 2) ≤ 9223372036854775807) = true := decide_eq_true c9
              try have c9b2 : (9223372036854775807 < 2 + (t141.size - 2)) = False := eq_false (Nat.not_lt.2 c9)
              replace H := Option.bind_eq_some_iff.mp H
              obtain ⟨t143, A100, H⟩ := H
              replace H : (if (t143 == (decide (a0 ≤ 255))) = true then (if 1 ≤ (t141.size : Int) then (if 1 + (t141.size - 1) ≤ 9223372036854775807 then ((impl_NmPath.f ((⟨#[47]⟩ : ByteArray) ++ (t141.extract 1 t141.size))).bind fun t144 => (some t144)) else (none)) else (none)) else (some false)) = some r := H
              have A10 := Aside0.mk A100
              clear A100
              by_cases c11 : (t143 == (decide (a0 ≤ 255))) = true
              · rw [if_pos c11] at H
                have c11b0 : (t143 == (decide (a0 ≤ 255))) = true := c11
                (try (have c11b1 : decide (t143 = (decide (a0 ≤ 255))) = true := by simpa using c11))
                (try (have c11b2 : (t143 == (decide (a0 ≤ 255))) = true := by simpa using c11))
                clear c11
                by_cases c12 : 1 ≤ (t141.size : Int)
                · rw [if_pos c12] at H
                  have c12b0 := eq_true c12
                  have c12b1 : decide (1 ≤ (t141.size : Int)) = true := decide_eq_true c12
                  clear c12
                  by_cases c13 : 1 + (t141.size - 1) ≤ 9223372036854775807
                  · rw [if_pos c13] at H
                    have c13b0 := eq_true c13
                    have c13b1 : decide (1 + (t141.size - 1) ≤ 9223372036854775807) = true := decide_eq_true c13
                    try have c13b2 : (9223372036854775807 < 1 + (t141.size - 1)) = False := eq_false (Nat.not_lt.2 c13)
                    replace H := Option.bind_eq_some_iff.mp H
                    obtain ⟨t144, A140, H⟩ := H
                    replace H : (some t144) = some r := H
                    have A14 := Aside0.mk A140
                    clear A140
                    obtain rfl := Option.some.inj H
                    go_wp2_with (first | ((with_reducible refine gate_callee (f := 30) rfl ?_); refine goesL_ (some 12) rfl rfl Try.func30 (by kernel_rfl) rfl #[.string (⟨#[97]⟩ : ByteArray), .int .i64 (wrap64 (a0))] rfl (by (try simp only [List.map_toArray, List.map_cons, List.map_nil]); first | done | rfl | (simp only [List.length_drop, List.length_take]; rfl)) ?_; (with_reducible refine (laws_sgRepeat.calls kj1 (⟨#[97]⟩ : ByteArray) (wrap64 (a0)) t141 _ A5.out).mono ?_); rintro e w' ⟨rfl, ⟨nd, rfl⟩⟩; refine ⟨_, rfl, ?_⟩) | ((with_reducible refine gate_callee (f := 29) rfl ?_); refine goesL_ (some 14) rfl rfl Try.func29 (by kernel_rfl) rfl #[.string t141] rfl (by (try simp only [List.map_toArray, List.map_cons, List.map_nil]); first | done | rfl | (simp only [List.length_drop, List.length_take]; rfl)) ?_; (with_reducible refine (impl_NmMember.calls t141 t142 _ A6.out).mono ?_); rintro e w15 ⟨rfl, hb⟩; refine ⟨_, rfl, ?_⟩; have n0_ := Aside0.mk (below_step (by repeat (first | (with_reducible first | exact HB.out | apply below_alloc | apply pw_below_drewN | apply below_drew1) | exact HB.out)) hb); clear HB; have HB := n0_; clear n0_; (try clear hb); (try clear hb2); (try clear hk); (try clear hi)) | (go_at_call 24; (with_reducible refine (impl_NmInterface.calls ((⟨#[97, 46]⟩ : ByteArray) ++ (t141.extract 2 t141.size)) t143 _ A10.out).mono ?_); rintro e w16 ⟨rfl, hb⟩; have n0_ := Aside0.mk (below_step (by repeat (first | (with_reducible first | exact HB.out | apply below_alloc | apply pw_below_drewN | apply below_drew1) | exact HB.out)) hb); clear HB; have HB := n0_; clear n0_; (try clear hb); (try clear hb2); (try clear hk); (try clear hi)) | (go_at_call 27; (with_reducible refine (impl_NmPath.calls ((⟨#[47]⟩ : ByteArray) ++ (t141.extract 1 t141.size)) t144 _ A14.out).mono ?_); rintro e w17 ⟨rfl, hb⟩; have n0_ := Aside0.mk (below_step (by repeat (first | (with_reducible first | exact HB.out | apply below_alloc | apply pw_below_drewN | apply below_drew1) | exact HB.out)) hb); clear HB; have HB := n0_; clear n0_; (try clear hb); (try clear hb2); (try clear hk); (try clear hi)))
                    go_ret
                    exact ⟨by first | rfl | (simp [errW_none, errW_some] <;> rfl) | (simp [*, errW_none, errW_some] <;> rfl), by repeat (first | (with_reducible first | exact HB.out | apply below_alloc | apply pw_below_drewN | apply below_drew1) | exact HB.out)⟩
                  · rw [if_neg c13] at H
                    exact absurd H (by simp)
                · rw [if_neg c12] at H
                  exact absurd H (by simp)
              · rw [if_neg c11] at H
                have c11b0 : (t143 == (decide (a0 ≤ 255))) = false := by simpa using c11
                (try (have c11b1 : decide (t143 = (decide (a0 ≤ 255))) = false := by simpa using c11))
                (try (have c11b2 : (t143 == (decide (a0 ≤ 255))) = false := by simpa using c11))
                (try (have c11b3 : ¬ (t143 = (decide (a0 ≤ 255))) := by simpa using c11))
                clear c11
                obtain rfl := Option.some.inj H
                go_wp2_with (first | ((with_reducible refine gate_callee (f := 30) rfl ?_); refine goesL_ (some 12) rfl rfl Try.func30 (by kernel_rfl) rfl #[.string (⟨#[97]⟩ : ByteArray), .int .i64 (wrap64 (a0))] rfl (by (try simp only [List.map_toArray, List.map_cons, List.map_nil]); first | done | rfl | (simp only [List.length_drop, List.length_take]; rfl)) ?_; (with_reducible refine (laws_sgRepeat.calls kj1 (⟨#[97]⟩ : ByteArray) (wrap64 (a0)) t141 _ A5.out).mono ?_); rintro e w' ⟨rfl, ⟨nd, rfl⟩⟩; refine ⟨_, rfl, ?_⟩) | ((with_reducible refine gate_callee (f := 29) rfl ?_); refine goesL_ (some 14) rfl rfl Try.func29 (by kernel_rfl) rfl #[.string t141] rfl (by (try simp only [List.map_toArray, List.map_cons, List.map_nil]); first | done | rfl | (simp only [List.length_drop, List.length_take]; rfl)) ?_; (with_reducible refine (impl_NmMember.calls t141 t142 _ A6.out).mono ?_); rintro e w18 ⟨rfl, hb⟩; refine ⟨_, rfl, ?_⟩; have n0_ := Aside0.mk (below_step (by repeat (first | (with_reducible first | exact HB.out | apply below_alloc | apply pw_below_drewN | apply below_drew1) | exact HB.out)) hb); clear HB; have HB := n0_; clear n0_; (try clear hb); (try clear hb2); (try clear hk); (try clear hi)) | (go_at_call 24; (with_reducible refine (impl_NmInterface.calls ((⟨#[97, 46]⟩ : ByteArray) ++ (t141.extract 2 t141.size)) t143 _ A10.out).mono ?_); rintro e w19 ⟨rfl, hb⟩; have n0_ := Aside0.mk (below_step (by repeat (first | (with_reducible first | exact HB.out | apply below_alloc | apply pw_below_drewN | apply below_drew1) | exact HB.out)) hb); clear HB; have HB := n0_; clear n0_; (try clear hb); (try clear hb2); (try clear hk); (try clear hi)))
                go_ret
                exact ⟨by first | rfl | (simp [errW_none, errW_some] <;> rfl) | (simp [*, errW_none, errW_some] <;> rfl), by repeat (first | (with_reducible first | exact HB.out | apply below_alloc | apply pw_below_drewN | apply below_drew1) | exact HB.out)⟩
            · rw [if_neg c9] at H
              exact absurd H (by simp)
          · rw [if_neg c8] at H
            exact absurd H (by simp)
        · rw [if_neg c7] at H
          have c7b0 : (t142 == (decide (a0 ≤ 255))) = false := by simpa using c7
          (try (have c7b1 : decide (t142 = (decide (a0 ≤ 255))) = false := by simpa using c7))
          (try (have c7b2 : (t142 == (decide (a0 ≤ 255))) = false := by simpa using c7))
          (try (have c7b3 : ¬ (t142 = (decide (a0 ≤ 255))) := by simpa using c7))
          clear c7
          obtain rfl := Option.some.inj H
          go_wp2_with (first | ((with_reducible refine gate_callee (f := 30) rfl ?_); refine goesL_ (some 12) rfl rfl Try.func30 (by kernel_rfl) rfl #[.string (⟨#[97]⟩ : ByteArray), .int .i64 (wrap64 (a0))] rfl (by (try simp only [List.map_toArray, List.map_cons, List.map_nil]); first | done | rfl | (simp only [List.length_drop, List.length_take]; rfl)) ?_; (with_reducible refine (laws_sgRepeat.calls kj1 (⟨#[97]⟩ : ByteArray) (wrap64 (a0)) t141 _ A5.out).mono ?_); rintro e w' ⟨rfl, ⟨nd, rfl⟩⟩; refine ⟨_, rfl, ?_⟩) | ((with_reducible refine gate_callee (f := 29) rfl ?_); refine goesL_ (some 14) rfl rfl Try.func29 (by kernel_rfl) rfl #[.string t141] rfl (by (try simp only [List.map_toArray, List.map_cons, List.map_nil]); first | done | rfl | (simp only [List.length_drop, List.length_take]; rfl)) ?_; (with_reducible refine (impl_NmMember.calls t141 t142 _ A6.out).mono ?_); rintro e w20 ⟨rfl, hb⟩; refine ⟨_, rfl, ?_⟩; have n0_ := Aside0.mk (below_step (by repeat (first | (with_reducible first | exact HB.out | apply below_alloc | apply pw_below_drewN | apply below_drew1) | exact HB.out)) hb); clear HB; have HB := n0_; clear n0_; (try clear hb); (try clear hb2); (try clear hk); (try clear hi)))
          go_ret
          exact ⟨by first | rfl | (simp [errW_none, errW_some] <;> rfl) | (simp [*, errW_none, errW_some] <;> rfl), by repeat (first | (with_reducible first | exact HB.out | apply below_alloc | apply pw_below_drewN | apply below_drew1) | exact HB.out)⟩

/-- THE ONE PURE STATEMENT of laws_FnNmLengths: yours. -/
def laws_FnNmLengths.Pure : Prop := ∀ (a0 : Int), (Lit.int .u16 a0).wf = true → ∃ k, laws_FnNmLengths.f k a0 = some true
theorem laws_FnNmLengths.walk (P : laws_FnNmLengths.Pure) (a0 : Int) (w : World) (w0 : (Lit.int .u16 a0).wf = true) :
    Calls Try.prog 14 #[.int .u16 a0] w fun e w' => e = .returned (.bool true) ∧ Below w.heap.size w w' := by
  obtain ⟨k, h⟩ := P a0 w0
  refine (laws_FnNmLengths.calls k a0 true w h).mono ?_
  rintro e w' ⟨rfl, hd⟩
  exact ⟨rfl, hd⟩

end Go.Proofs.Ythkmgbfobobpdaa.PNm

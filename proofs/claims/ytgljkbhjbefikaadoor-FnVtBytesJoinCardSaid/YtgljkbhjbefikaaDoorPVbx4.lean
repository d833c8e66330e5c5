-- Written by a program of this session (wip/tools/myprint.py) for this claim.
import Derived.Test.YtgljkbhjbefikaaDoorPVbx0
import Derived.Test.YtgljkbhjbefikaaDoorPVbx1
import Derived.Test.YtgljkbhjbefikaaDoorPVbx2
import Derived.Test.YtgljkbhjbefikaaDoorPVbx3
namespace Go.Proofs.YtgljkbhjbefikaaDoor.PVb
open Go.RowKit Go.Proofs.YtgljkbhjbefikaaDoorW.PrintWords Go.Proofs.YtgljkbhjbefikaaDoorW.PrintLast Go.Proofs.YtgljkbhjbefikaaDoorW.PrintMore
attribute [local go_sem] max2_int min2_int max_two min_two max_three min_three max_four min_four   -- for this text's walks alone
set_option linter.unusedVariables false
set_option linter.unusedSimpArgs false

/-! ### laws_FnVtBytesJoin: function 3 -/
mutual
def laws_FnVtBytesJoin.j0 : Nat → ByteArray → ByteArray → Bool → Bool → Option (Bool)
  | 0, _, _, _, _ => none
  | k + 1, x0, x1, x2, x26 => if x26 = true then (some true) else ((laws_vtInside.f k x0 x2).bind fun bt167 => ((laws_vtInside.f k x1 x2).bind fun bt169 => (if bt167.2 = true then (if bt169.2 = true then (laws_FnVtBytesJoin.j1 k bt167.1 bt169.1 (decide ((wrap64 ((bt167.1.size : Int) + (bt169.1.size : Int))) > 4096))) else (laws_FnVtBytesJoin.j1 k bt167.1 bt169.1 true)) else (laws_FnVtBytesJoin.j1 k bt167.1 bt169.1 true))))
def laws_FnVtBytesJoin.j1 : Nat → ByteArray → ByteArray → Bool → Option (Bool)
  | 0, _, _, _ => none
  | k + 1, x7, x9, x52 => if x52 = true then (some true) else (if 1 + x7.size ≤ 9223372036854775807 then ((impl_VtBytes.f k ((⟨#[98]⟩ : ByteArray) ++ x7)).bind fun bt171 => (if bt171.2 = true then (if 1 + x9.size ≤ 9223372036854775807 then ((impl_VtBytes.f k ((⟨#[98]⟩ : ByteArray) ++ x9)).bind fun bt173 => (if 0 ≤ (wrap64 ((x7.size : Int) - 1)) then (if (wrap64 ((x7.size : Int) - 1)) ≤ (x7.size : Int) then (if 1 + (x7.extract 0 ((wrap64 ((x7.size : Int) - 1)) : Int).toNat).size ≤ 9223372036854775807 then (if 1 ≤ (x9.size : Int) then (if ((⟨#[98]⟩ : ByteArray) ++ (x7.extract 0 ((wrap64 ((x7.size : Int) - 1)) : Int).toNat)).size + (x9.size - 1) ≤ 9223372036854775807 then ((impl_VtBytes.f k (((⟨#[98]⟩ : ByteArray) ++ (x7.extract 0 ((wrap64 ((x7.size : Int) - 1)) : Int).toNat)) ++ (x9.extract 1 x9.size))).bind fun bt175 => (if bt171.1.toList = ([] : List UInt8) then (some false) else (if (bt175.2 == bt173.2) = true then (if bt175.2 = true then (if 0 ≤ (wrap64 ((bt171.1.size : Int) - 1)) then (if (wrap64 ((bt171.1.size : Int) - 1)) ≤ (bt171.1.size : Int) then (if (bt171.1.extract 0 ((wrap64 ((bt171.1.size : Int) - 1)) : Int).toNat).size + bt173.1.size ≤ 9223372036854775807 then (some (bt175.1.toList == ((bt171.1.extract 0 ((wrap64 ((bt171.1.size : Int) - 1)) : Int).toNat) ++ bt173.1).toList)) else (none)) else (none)) else (none)) else (some true)) else (some false)))) else (none)) else (none)) else (none)) else (none)) else (none))) else (none)) else ((spec_BytesOf.f k ((⟨#[98]⟩ : ByteArray) ++ x7)).bind fun bt177 => (some (!bt177.2))))) else (none))
end
def laws_FnVtBytesJoin.f (k : Nat) (a0 : ByteArray) (a1 : ByteArray) (a2 : Bool) : Option (Bool) := if (a0.size : Int) > 2147483647 then (laws_FnVtBytesJoin.j0 k a0 a1 a2 true) else (laws_FnVtBytesJoin.j0 k a0 a1 a2 (decide ((a1.size : Int) > 2147483647)))
theorem laws_FnVtBytesJoin.mono_l : ∀ k, (∀ y0 y1 y2 y3, LeO (laws_FnVtBytesJoin.j0 k y0 y1 y2 y3) (laws_FnVtBytesJoin.j0 (k + 1) y0 y1 y2 y3)) ∧ (∀ y0 y1 y2, LeO (laws_FnVtBytesJoin.j1 k y0 y1 y2) (laws_FnVtBytesJoin.j1 (k + 1) y0 y1 y2))
  | 0 => ⟨fun _ _ _ _ r h => by simp [laws_FnVtBytesJoin.j0] at h, fun _ _ _ r h => by simp [laws_FnVtBytesJoin.j1] at h⟩
  | k + 1 => by
    obtain ⟨ih0, ih1⟩ := laws_FnVtBytesJoin.mono_l k
    refine ⟨?_, ?_⟩
    · intro y0 y1 y2 y3
      unfold laws_FnVtBytesJoin.j0
      repeat' first
      | (with_reducible exact ih0 _ _ _ _)
      | (with_reducible exact ih1 _ _ _)
      | (with_reducible exact impl_VtBytes.mono _ _)
      | (with_reducible exact laws_vtInside.mono _ _ _)
      | (with_reducible exact spec_BytesOf.mono _ _)
      | (with_reducible exact LeO.refl _)
      | (with_reducible exact LeO.none _)
      | (with_reducible refine LeO.ite ?_ ?_)
      | (with_reducible refine LeO.bind ?_ (fun _ => ?_))
      | exact ih0 _ _ _ _
      | exact ih1 _ _ _
      | exact impl_VtBytes.mono _ _
      | exact laws_vtInside.mono _ _ _
      | exact spec_BytesOf.mono _ _
      | exact LeO.none _
      | refine LeO.ite ?_ ?_
      | refine LeO.bind ?_ (fun _ => ?_)
    · intro y0 y1 y2
      unfold laws_FnVtBytesJoin.j1
      repeat' first
      | (with_reducible exact ih0 _ _ _ _)
      | (with_reducible exact ih1 _ _ _)
      | (with_reducible exact impl_VtBytes.mono _ _)
      | (with_reducible exact laws_vtInside.mono _ _ _)
      | (with_reducible exact spec_BytesOf.mono _ _)
      | (with_reducible exact LeO.refl _)
      | (with_reducible exact LeO.none _)
      | (with_reducible refine LeO.ite ?_ ?_)
      | (with_reducible refine LeO.bind ?_ (fun _ => ?_))
      | exact ih0 _ _ _ _
      | exact ih1 _ _ _
      | exact impl_VtBytes.mono _ _
      | exact laws_vtInside.mono _ _ _
      | exact spec_BytesOf.mono _ _
      | exact LeO.none _
      | refine LeO.ite ?_ ?_
      | refine LeO.bind ?_ (fun _ => ?_)
theorem laws_FnVtBytesJoin.mono : ∀ a0 a1 a2 k, LeO (laws_FnVtBytesJoin.f k a0 a1 a2) (laws_FnVtBytesJoin.f (k + 1) a0 a1 a2) := by
  intro a0 a1 a2 k
  obtain ⟨ih0, ih1⟩ := laws_FnVtBytesJoin.mono_l k
  unfold laws_FnVtBytesJoin.f
  repeat' first
      | (with_reducible exact ih0 _ _ _ _)
      | (with_reducible exact ih1 _ _ _)
      | (with_reducible exact impl_VtBytes.mono _ _)
      | (with_reducible exact laws_vtInside.mono _ _ _)
      | (with_reducible exact spec_BytesOf.mono _ _)
      | (with_reducible exact LeO.refl _)
      | (with_reducible exact LeO.none _)
      | (with_reducible refine LeO.ite ?_ ?_)
      | (with_reducible refine LeO.bind ?_ (fun _ => ?_))
      | exact ih0 _ _ _ _
      | exact ih1 _ _ _
      | exact impl_VtBytes.mono _ _
      | exact laws_vtInside.mono _ _ _
      | exact spec_BytesOf.mono _ _
      | exact LeO.none _
      | refine LeO.ite ?_ ?_
      | refine LeO.bind ?_ (fun _ => ?_)
def laws_FnVtBytesJoin.T12 : Bool × List (List Nat × List Nat) := (true, [([], []), ([], []), ([1], [1]), ([2], [2]), ([0, 3], [0, 3]), ([4], [4]), ([], []), ([6], [6]), ([5, 7], [5, 7]), ([8], [8]), ([9], [9]), ([10], [10]), ([10], [10]), ([11, 9, 0, 1, 2, 3, 4, 5, 6, 7, 8, 9, 10, 11], [11]), ([12, 13, 0, 1, 2, 3, 4, 5, 6, 7, 8, 9, 10, 11, 12, 13], [12])])
def laws_FnVtBytesJoin.B12 : List Nat := [0, 0, 2, 6, 15, 31, 0, 64, 255, 511, 1023, 2047, 2047, 4095, 16383]
theorem laws_FnVtBytesJoin.tab12 : rtab .any (opsOf Tryd.f3 12) = laws_FnVtBytesJoin.T12 := by kernel_rfl
theorem laws_FnVtBytesJoin.bits12 : waitsOk laws_FnVtBytesJoin.T12.2 laws_FnVtBytesJoin.B12 = true := by kernel_rfl
set_option maxHeartbeats 8000000 in
set_option maxRecDepth 100000 in
theorem laws_FnVtBytesJoin.calls (k : Nat) (a0 : ByteArray) (a1 : ByteArray) (a2 : Bool) (r : Bool) (w : World) (hG : Given.Glob w) (h : laws_FnVtBytesJoin.f k a0 a1 a2 = some r) :
    Calls Tryd.prog 3 #[.string a0, .string a1, .bool a2] w fun e w' => e = .returned (.bool r) ∧ Below w.heap.size w w' := by
  have HG := Aside0.mk hG
  clear hG
  have HB := Aside0.mk (Below.refl w.heap.size w)
  have H : (if (a0.size : Int) > 2147483647 then (laws_FnVtBytesJoin.j0 k a0 a1 a2 true) else (laws_FnVtBytesJoin.j0 k a0 a1 a2 (decide ((a1.size : Int) > 2147483647)))) = some r := h
  clear h
  have HC4 := Aside0.mk H
  clear H
  go_enter Tryd.func3, Tryd.ntmps3
  go_upto_region 1 with (fail)
  go_cut [26] (fun v26 wc => ∃ (kq : Nat) (x26_3 : Bool), v26 = .bool x26_3 ∧ Aside0 (laws_FnVtBytesJoin.j0 kq a0 a1 a2 x26_3 = some r) ∧ Aside0 (kq ≤ k) ∧ Aside0 (Below w.heap.size w wc))
  case first =>
    have H := HC4.out
    clear HC4
    by_cases c5 : (a0.size : Int) > 2147483647
    · rw [if_pos c5] at H
      have c5b0 : decide (2147483647 < (a0.size : Int)) = true := decide_eq_true c5
      have c5b1 : decide (2147483647 < a0.size) = true := decide_eq_true (by omega)
      clear c5
      (first | rw [c5b0] | (simp only [i64_w, i32_w]; rw [c5b0]) | skip)
      have H' := Aside0.mk H
      clear H
      go_wp2
      go_meet
      case rel => exact ⟨_, (true), (by first | rfl | (simp; done) | (simp [*]; done)), H', ⟨by first | omega | exact Nat.le_refl _⟩, ⟨by repeat (first | (with_reducible first | exact HB.out | apply below_alloc | apply pw_below_drewN | apply below_drew1) | exact HB.out)⟩⟩
    · rw [if_neg c5] at H
      have c5b0 : decide (2147483647 < (a0.size : Int)) = false := decide_eq_false c5
      have c5b1 : decide (2147483647 < a0.size) = false := decide_eq_false (by omega)
      clear c5
      (first | rw [c5b0] | (simp only [i64_w, i32_w]; rw [c5b0]) | skip)
      have H' := Aside0.mk H
      clear H
      go_wp2
      go_meet
      case rel => exact ⟨_, (decide ((a1.size : Int) > 2147483647)), (by first | rfl | (simp; done) | (simp [*]; done)), H', ⟨by first | omega | exact Nat.le_refl _⟩, ⟨by repeat (first | (with_reducible first | exact HB.out | apply below_alloc | apply pw_below_drewN | apply below_drew1) | exact HB.out)⟩⟩
  case rest =>
    clear HC4
    try clear p2
    try clear c3
    try clear c5
    try clear c5b0
    try clear c5b1
    obtain ⟨kq, x26_3, rfl, HA, HJ3, HB⟩ := hcut
    cases kq with
    | zero => exact absurd HA.out (by simp [laws_FnVtBytesJoin.j0])
    | succ kj3 =>
      have H := HA.out
      clear HA
      simp only [laws_FnVtBytesJoin.j0] at H
      by_cases c6 : x26_3 = true
      · subst c6
        have H1 : (some true) = some r := by rw [if_pos rfl] at H; exact H
        clear H
        have H := H1
        clear H1
        obtain rfl := Option.some.inj H
        go_wp2
        go_ret
        exact ⟨by first | rfl | (simp [errW_none, errW_some] <;> rfl) | (simp [*, errW_none, errW_some] <;> rfl), by repeat (first | (with_reducible first | exact HB.out | apply below_alloc | apply pw_below_drewN | apply below_drew1) | exact HB.out)⟩
      · replace c6 := Bool.eq_false_iff.mpr c6
        subst c6
        have H1 : ((laws_vtInside.f kj3 a0 a2).bind fun bt167 => ((laws_vtInside.f kj3 a1 a2).bind fun bt169 => (if bt167.2 = true then (if bt169.2 = true then (laws_FnVtBytesJoin.j1 kj3 bt167.1 bt169.1 (decide ((wrap64 ((bt167.1.size : Int) + (bt169.1.size : Int))) > 4096))) else (laws_FnVtBytesJoin.j1 kj3 bt167.1 bt169.1 true)) else (laws_FnVtBytesJoin.j1 kj3 bt167.1 bt169.1 true)))) = some r := by rw [if_neg (show ¬ (false = true) by decide)] at H; exact H
        clear H
        have H := H1
        clear H1
        replace H := Option.bind_eq_some_iff.mp H
        obtain ⟨⟨t167, t168⟩, A70, H⟩ := H
        replace H : ((laws_vtInside.f kj3 a1 a2).bind fun bt169 => (if t168 = true then (if bt169.2 = true then (laws_FnVtBytesJoin.j1 kj3 t167 bt169.1 (decide ((wrap64 ((t167.size : Int) + (bt169.1.size : Int))) > 4096))) else (laws_FnVtBytesJoin.j1 kj3 t167 bt169.1 true)) else (laws_FnVtBytesJoin.j1 kj3 t167 bt169.1 true))) = some r := H
        have A7 := Aside0.mk A70
        clear A70
        replace H := Option.bind_eq_some_iff.mp H
        obtain ⟨⟨t169, t170⟩, A80, H⟩ := H
        replace H : (if t168 = true then (if t170 = true then (laws_FnVtBytesJoin.j1 kj3 t167 t169 (decide ((wrap64 ((t167.size : Int) + (t169.size : Int))) > 4096))) else (laws_FnVtBytesJoin.j1 kj3 t167 t169 true)) else (laws_FnVtBytesJoin.j1 kj3 t167 t169 true)) = some r := H
        have A8 := Aside0.mk A80
        clear A80
        have HC9 := Aside0.mk H
        clear H
        go_upto_region 5 with (first | ((with_reducible refine gate_callee (f := 6) rfl ?_); refine goesL_ (some 30) rfl rfl Tryd.func6 (by kernel_rfl) rfl #[.string a0, .bool a2] rfl (by (try simp only [List.map_toArray, List.map_cons, List.map_nil]); first | done | rfl | (simp only [List.length_drop, List.length_take]; rfl)) ?_; (with_reducible refine (laws_vtInside.calls kj3 a0 a2 t167 t168 _ A7.out).mono ?_); rintro e w' ⟨rfl, ⟨nd, rfl⟩⟩; refine ⟨_, rfl, ?_⟩) | ((with_reducible refine gate_callee (f := 6) rfl ?_); refine goesL_ (some 36) rfl rfl Tryd.func6 (by kernel_rfl) rfl #[.string a1, .bool a2] rfl (by (try simp only [List.map_toArray, List.map_cons, List.map_nil]); first | done | rfl | (simp only [List.length_drop, List.length_take]; rfl)) ?_; (with_reducible refine (laws_vtInside.calls kj3 a1 a2 t169 t170 _ A8.out).mono ?_); rintro e w' ⟨rfl, ⟨nd, rfl⟩⟩; refine ⟨_, rfl, ?_⟩))
        (try simp only [Act.put, List.setIfInBounds_toArray, List.set_cons_zero, List.set_cons_succ])
        go_cut [52] (fun v52 wc => ∃ (kq : Nat) (x52_8 : Bool), v52 = .bool x52_8 ∧ Aside0 (laws_FnVtBytesJoin.j1 kq t167 t169 x52_8 = some r) ∧ Aside0 (kq ≤ kj3) ∧ Aside0 (Below w.heap.size w wc))
        case first =>
          have H := HC9.out
          clear HC9
          by_cases c10 : t168 = true
          · subst c10
            have H1 : (if t170 = true then (laws_FnVtBytesJoin.j1 kj3 t167 t169 (decide ((wrap64 ((t167.size : Int) + (t169.size : Int))) > 4096))) else (laws_FnVtBytesJoin.j1 kj3 t167 t169 true)) = some r := by rw [if_pos rfl] at H; exact H
            clear H
            have H := H1
            clear H1
            by_cases c11 : t170 = true
            · subst c11
              have H1 : (laws_FnVtBytesJoin.j1 kj3 t167 t169 (decide ((wrap64 ((t167.size : Int) + (t169.size : Int))) > 4096))) = some r := by rw [if_pos rfl] at H; exact H
              clear H
              have H := H1
              clear H1
              have H' := Aside0.mk H
              clear H
              go_wp2
              go_meet
              case rel => exact ⟨_, (decide ((wrap64 ((t167.size : Int) + (t169.size : Int))) > 4096)), (by first | rfl | (simp; done) | (simp [*]; done)), H', ⟨by have := HJ3.out; first | omega | exact Nat.le_refl _⟩, ⟨by repeat (first | (with_reducible first | exact HB.out | apply below_alloc | apply pw_below_drewN | apply below_drew1) | exact HB.out)⟩⟩
            · replace c11 := Bool.eq_false_iff.mpr c11
              subst c11
              have H1 : (laws_FnVtBytesJoin.j1 kj3 t167 t169 true) = some r := by rw [if_neg (show ¬ (false = true) by decide)] at H; exact H
              clear H
              have H := H1
              clear H1
              have H' := Aside0.mk H
              clear H
              go_wp2
              go_meet
              case rel => exact ⟨_, (true), (by first | rfl | (simp; done) | (simp [*]; done)), H', ⟨by have := HJ3.out; first | omega | exact Nat.le_refl _⟩, ⟨by repeat (first | (with_reducible first | exact HB.out | apply below_alloc | apply pw_below_drewN | apply below_drew1) | exact HB.out)⟩⟩
          · replace c10 := Bool.eq_false_iff.mpr c10
            subst c10
            have H1 : (laws_FnVtBytesJoin.j1 kj3 t167 t169 true) = some r := by rw [if_neg (show ¬ (false = true) by decide)] at H; exact H
            clear H
            have H := H1
            clear H1
            have H' := Aside0.mk H
            clear H
            go_wp2
            go_meet
            case rel => exact ⟨_, (true), (by first | rfl | (simp; done) | (simp [*]; done)), H', ⟨by have := HJ3.out; first | omega | exact Nat.le_refl _⟩, ⟨by repeat (first | (with_reducible first | exact HB.out | apply below_alloc | apply pw_below_drewN | apply below_drew1) | exact HB.out)⟩⟩
        case rest =>
          clear HC9
          try clear c1
          try clear p2
          try clear c3
          try clear c5
          try clear c5b0
          try clear c5b1
          try clear c6
          try clear p6
          try clear c10
          try clear c11
          try clear p2
          obtain ⟨kq, x52_8, rfl, HA, HJ8, HB⟩ := hcut
          cases kq with
          | zero => exact absurd HA.out (by simp [laws_FnVtBytesJoin.j1])
          | succ kj8 =>
            have H := HA.out
            clear HA
            simp only [laws_FnVtBytesJoin.j1] at H
            by_cases c12 : x52_8 = true
            · subst c12
              have H1 : (some true) = some r := by rw [if_pos rfl] at H; exact H
              clear H
              have H := H1
              clear H1
              obtain rfl := Option.some.inj H
              go_wp2
              go_ret
              exact ⟨by first | rfl | (simp [errW_none, errW_some] <;> rfl) | (simp [*, errW_none, errW_some] <;> rfl), by repeat (first | (with_reducible first | exact HB.out | apply below_alloc | apply pw_below_drewN | apply below_drew1) | exact HB.out)⟩
            · replace c12 := Bool.eq_false_iff.mpr c12
              subst c12
              have H1 : (if 1 + t167.size ≤ 9223372036854775807 then ((impl_VtBytes.f kj8 ((⟨#[98]⟩ : ByteArray) ++ t167)).bind fun bt171 => (if bt171.2 = true then (if 1 + t169.size ≤ 9223372036854775807 then ((impl_VtBytes.f kj8 ((⟨#[98]⟩ : ByteArray) ++ t169)).bind fun bt173 => (if 0 ≤ (wrap64 ((t167.size : Int) - 1)) then (if (wrap64 ((t167.size : Int) - 1)) ≤ (t167.size : Int) then (if 1 + (t167.extract 0 ((wrap64 ((t167.size : Int) - 1)) : Int).toNat).size ≤ 9223372036854775807 then (if 1 ≤ (t169.size : Int) then (if ((⟨#[98]⟩ : ByteArray) ++ (t167.extract 0 ((wrap64 ((t167.size : Int) - 1)) : Int).toNat)).size + (t169.size - 1) ≤ 9223372036854775807 then ((impl_VtBytes.f kj8 (((⟨#[98]⟩ : ByteArray) ++ (t167.extract 0 ((wrap64 ((t167.size : Int) - 1)) : Int).toNat)) ++ (t169.extract 1 t169.size))).bind fun bt175 => (if bt171.1.toList = ([] : List UInt8) then (some false) else (if (bt175.2 == bt173.2) = true then (if bt175.2 = true then (if 0 ≤ (wrap64 ((bt171.1.size : Int) - 1)) then (if (wrap64 ((bt171.1.size : Int) - 1)) ≤ (bt171.1.size : Int) then (if (bt171.1.extract 0 ((wrap64 ((bt171.1.size : Int) - 1)) : Int).toNat).size + bt173.1.size ≤ 9223372036854775807 then (some (bt175.1.toList == ((bt171.1.extract 0 ((wrap64 ((bt171.1.size : Int) - 1)) : Int).toNat) ++ bt173.1).toList)) else (none)) else (none)) else (none)) else (some true)) else (some false)))) else (none)) else (none)) else (none)) else (none)) else (none))) else (none)) else ((spec_BytesOf.f kj8 ((⟨#[98]⟩ : ByteArray) ++ t167)).bind fun bt177 => (some (!bt177.2))))) else (none)) = some r := by rw [if_neg (show ¬ (false = true) by decide)] at H; exact H
              clear H
              have H := H1
              clear H1
              by_cases c13 : 1 + t167.size ≤ 9223372036854775807
              · rw [if_pos c13] at H
                have c13b0 := eq_true c13
                have c13b1 : decide (1 + t167.size ≤ 9223372036854775807) = true := decide_eq_true c13
                try have c13b2 : (9223372036854775807 < 1 + t167.size) = False := eq_false (Nat.not_lt.2 c13)
                replace H := Option.bind_eq_some_iff.mp H
                obtain ⟨⟨t171, t172⟩, A140, H⟩ := H
                replace H : (if t172 = true then (if 1 + t169.size ≤ 9223372036854775807 then ((impl_VtBytes.f kj8 ((⟨#[98]⟩ : ByteArray) ++ t169)).bind fun bt173 => (if 0 ≤ (wrap64 ((t167.size : Int) - 1)) then (if (wrap64 ((t167.size : Int) - 1)) ≤ (t167.size : Int) then (if 1 + (t167.extract 0 ((wrap64 ((t167.size : Int) - 1)) : Int).toNat).size ≤ 9223372036854775807 then (if 1 ≤ (t169.size : Int) then (if ((⟨#[98]⟩ : ByteArray) ++ (t167.extract 0 ((wrap64 ((t167.size : Int) - 1)) : Int).toNat)).size + (t169.size - 1) ≤ 9223372036854775807 then ((impl_VtBytes.f kj8 (((⟨#[98]⟩ : ByteArray) ++ (t167.extract 0 ((wrap64 ((t167.size : Int) - 1)) : Int).toNat)) ++ (t169.extract 1 t169.size))).bind fun bt175 => (if t171.toList = ([] : List UInt8) then (some false) else (if (bt175.2 == bt173.2) = true then (if bt175.2 = true then (if 0 ≤ (wrap64 ((t171.size : Int) - 1)) then (if (wrap64 ((t171.size : Int) - 1)) ≤ (t171.size : Int) then (if (t171.extract 0 ((wrap64 ((t171.size : Int) - 1)) : Int).toNat).size + bt173.1.size ≤ 9223372036854775807 then (some (bt175.1.toList == ((t171.extract 0 ((wrap64 ((t171.size : Int) - 1)) : Int).toNat) ++ bt173.1).toList)) else (none)) else (none)) else (none)) else (some true)) else (some false)))) else (none)) else (none)) else (none)) else (none)) else (none))) else (none)) else ((spec_BytesOf.f kj8 ((⟨#[98]⟩ : ByteArray) ++ t167)).bind fun bt177 => (some (!bt177.2)))) = some r := H
                have A14 := Aside0.mk A140
                clear A140
                by_cases c15 : t172 = true
                · subst c15
                  have H1 : (if 1 + t169.size ≤ 9223372036854775807 then ((impl_VtBytes.f kj8 ((⟨#[98]⟩ : ByteArray) ++ t169)).bind fun bt173 => (if 0 ≤ (wrap64 ((t167.size : Int) - 1)) then (if (wrap64 ((t167.size : Int) - 1)) ≤ (t167.size : Int) then (if 1 + (t167.extract 0 ((wrap64 ((t167.size : Int) - 1)) : Int).toNat).size ≤ 9223372036854775807 then (if 1 ≤ (t169.size : Int) then (if ((⟨#[98]⟩ : ByteArray) ++ (t167.extract 0 ((wrap64 ((t167.size : Int) - 1)) : Int).toNat)).size + (t169.size - 1) ≤ 9223372036854775807 then ((impl_VtBytes.f kj8 (((⟨#[98]⟩ : ByteArray) ++ (t167.extract 0 ((wrap64 ((t167.size : Int) - 1)) : Int).toNat)) ++ (t169.extract 1 t169.size))).bind fun bt175 => (if t171.toList = ([] : List UInt8) then (some false) else (if (bt175.2 == bt173.2) = true then (if bt175.2 = true then (if 0 ≤ (wrap64 ((t171.size : Int) - 1)) then (if (wrap64 ((t171.size : Int) - 1)) ≤ (t171.size : Int) then (if (t171.extract 0 ((wrap64 ((t171.size : Int) - 1)) : Int).toNat).size + bt173.1.size ≤ 9223372036854775807 then (some (bt175.1.toList == ((t171.extract 0 ((wrap64 ((t171.size : Int) - 1)) : Int).toNat) ++ bt173.1).toList)) else (none)) else (none)) else (none)) else (some true)) else (some false)))) else (none)) else (none)) else (none)) else (none)) else (none))) else (none)) = some r := by rw [if_pos rfl] at H; exact H
                  clear H
                  have H := H1
                  clear H1
                  by_cases c16 : 1 + t169.size ≤ 9223372036854775807
                  · rw [if_pos c16] at H
                    have c16b0 := eq_true c16
                    have c16b1 : decide (1 + t169.size ≤ 9223372036854775807) = true := decide_eq_true c16
                    try have c16b2 : (9223372036854775807 < 1 + t169.size) = False := eq_false (Nat.not_lt.2 c16)
                    replace H := Option.bind_eq_some_iff.mp H
                    obtain ⟨⟨t173, t174⟩, A170, H⟩ := H
                    replace H : (if 0 ≤ (wrap64 ((t167.size : Int) - 1)) then (if (wrap64 ((t167.size : Int) - 1)) ≤ (t167.size : Int) then (if 1 + (t167.extract 0 ((wrap64 ((t167.size : Int) - 1)) : Int).toNat).size ≤ 9223372036854775807 then (if 1 ≤ (t169.size : Int) then (if ((⟨#[98]⟩ : ByteArray) ++ (t167.extract 0 ((wrap64 ((t167.size : Int) - 1)) : Int).toNat)).size + (t169.size - 1) ≤ 9223372036854775807 then ((impl_VtBytes.f kj8 (((⟨#[98]⟩ : ByteArray) ++ (t167.extract 0 ((wrap64 ((t167.size : Int) - 1)) : Int).toNat)) ++ (t169.extract 1 t169.size))).bind fun bt175 => (if t171.toList = ([] : List UInt8) then (some false) else (if (bt175.2 == t174) = true then (if bt175.2 = true then (if 0 ≤ (wrap64 ((t171.size : Int) - 1)) then (if (wrap64 ((t171.size : Int) - 1)) ≤ (t171.size : Int) then (if (t171.extract 0 ((wrap64 ((t171.size : Int) - 1)) : Int).toNat).size + t173.size ≤ 9223372036854775807 then (some (bt175.1.toList == ((t171.extract 0 ((wrap64 ((t171.size : Int) - 1)) : Int).toNat) ++ t173).toList)) else (none)) else (none)) else (none)) else (some true)) else (some false)))) else (none)) else (none)) else (none)) else (none)) else (none)) = some r := H
                    have A17 := Aside0.mk A170
                    clear A170
                    obtain ⟨ji18, hji18⟩ : ∃ j_ : Int, (wrap64 ((t167.size : Int) - 1)) = j_ := ⟨_, rfl⟩
                    replace H : (if 0 ≤ (ji18) then (if (ji18) ≤ (t167.size : Int) then (if 1 + (t167.extract 0 ((ji18) : Int).toNat).size ≤ 9223372036854775807 then (if 1 ≤ (t169.size : Int) then (if ((⟨#[98]⟩ : ByteArray) ++ (t167.extract 0 ((ji18) : Int).toNat)).size + (t169.size - 1) ≤ 9223372036854775807 then ((impl_VtBytes.f kj8 (((⟨#[98]⟩ : ByteArray) ++ (t167.extract 0 ((ji18) : Int).toNat)) ++ (t169.extract 1 t169.size))).bind fun bt175 => (if t171.toList = ([] : List UInt8) then (some false) else (if (bt175.2 == t174) = true then (if bt175.2 = true then (if 0 ≤ (wrap64 ((t171.size : Int) - 1)) then (if (wrap64 ((t171.size : Int) - 1)) ≤ (t171.size : Int) then (if (t171.extract 0 ((wrap64 ((t171.size : Int) - 1)) : Int).toNat).size + t173.size ≤ 9223372036854775807 then (some (bt175.1.toList == ((t171.extract 0 ((wrap64 ((t171.size : Int) - 1)) : Int).toNat) ++ t173).toList)) else (none)) else (none)) else (none)) else (some true)) else (some false)))) else (none)) else (none)) else (none)) else (none)) else (none)) = some r := by first | (rw [hji18] at H; exact H) | (simp only [hji18] at H ⊢; exact H)
                    (try rw [hji18] at A14)
                    (try rw [hji18] at A17)
                    have hji18w : (IntKind.i64.wrap ((t167.size : Int) - 1)) = ji18 := (i64_w _).trans hji18
                    by_cases c19 : 0 ≤ (ji18)
                    · rw [if_pos c19] at H
                      have c19b0 := eq_true c19
                      have c19b1 : decide (0 ≤ (ji18)) = true := decide_eq_true c19
                      clear c19
                      by_cases c20 : (ji18) ≤ (t167.size : Int)
                      · rw [if_pos c20] at H
                        have c20b0 := eq_true c20
                        have c20b1 : decide ((ji18) ≤ (t167.size : Int)) = true := decide_eq_true c20
                        clear c20
                        by_cases c21 : 1 + (t167.extract 0 ((ji18) : Int).toNat).size ≤ 9223372036854775807
                        · rw [if_pos c21] at H
                          have c21b0 := eq_true c21
                          have c21b1 : decide (1 + (t167.extract 0 ((ji18) : Int).toNat).size ≤ 9223372036854775807) = true := decide_eq_true c21
                          try have c21b2 : (9223372036854775807 < 1 + (t167.extract 0 ((ji18) : Int).toNat).size) = False := eq_false (Nat.not_lt.2 c21)
                          by_cases c22 : 1 ≤ (t169.size : Int)
                          · rw [if_pos c22] at H
                            have c22b0 := eq_true c22
                            have c22b1 : decide (1 ≤ (t169.size : Int)) = true := decide_eq_true c22
                            clear c22
                            by_cases c23 : ((⟨#[98]⟩ : ByteArray) ++ (t167.extract 0 ((ji18) : Int).toNat)).size + (t169.size - 1) ≤ 9223372036854775807
                            · rw [if_pos c23] at H
                              have c23b0 := eq_true c23
                              have c23b1 : decide (((⟨#[98]⟩ : ByteArray) ++ (t167.extract 0 ((ji18) : Int).toNat)).size + (t169.size - 1) ≤ 9223372036854775807) = true := decide_eq_true c23
                              try have c23b2 : (9223372036854775807 < ((⟨#[98]⟩ : ByteArray) ++ (t167.extract 0 ((ji18) : Int).toNat)).size + (t169.size - 1)) = False := eq_false (Nat.not_lt.2 c23)
                              have hs_a : (t167.extract 0 (ji18 : Int).toNat).size = ji18.toNat := by have h_ := of_eq_true c20b0; rw [ByteArray.size_extract]; omega
                              have hz_a : (9223372036854775807 < 1 + ji18.toNat) = False := by rw [← hs_a]; exact eq_false (Nat.not_lt.2 c21)
                              have hz_b : (9223372036854775807 < 1 + ji18.toNat + (t169.size - 1)) = False := by rw [← hs_a]; have h_ := c23; rw [ByteArray.size_append] at h_; exact eq_false (Nat.not_lt.2 h_)
                              clear hs_a
                              replace H := Option.bind_eq_some_iff.mp H
                              obtain ⟨⟨t175, t176⟩, A240, H⟩ := H
                              replace H : (if t171.toList = ([] : List UInt8) then (some false) else (if (t176 == t174) = true then (if t176 = true then (if 0 ≤ (wrap64 ((t171.size : Int) - 1)) then (if (wrap64 ((t171.size : Int) - 1)) ≤ (t171.size : Int) then (if (t171.extract 0 ((wrap64 ((t171.size : Int) - 1)) : Int).toNat).size + t173.size ≤ 9223372036854775807 then (some (t175.toList == ((t171.extract 0 ((wrap64 ((t171.size : Int) - 1)) : Int).toNat) ++ t173).toList)) else (none)) else (none)) else (none)) else (some true)) else (some false))) = some r := H
                              have A24 := Aside0.mk A240
                              clear A240
                              by_cases c25 : t171.toList = ([] : List UInt8)
                              · rw [if_pos c25] at H
                                have c25b0 : (t171.toList == ([] : List UInt8)) = true := beq_iff_eq.mpr c25
                                have c25b1 : (t171.toList != ([] : List UInt8)) = false := bne_eq_false_iff_eq.mpr c25
                                clear c25
                                obtain rfl := Option.some.inj H
                                try go_wp2_with (first | ((with_reducible refine gate_callee (f := 7) rfl ?_); refine goesL_ (some 56) rfl rfl Tryd.func7 (by kernel_rfl) rfl #[.string ((⟨#[98]⟩ : ByteArray) ++ t167)] rfl (by (try simp only [List.map_toArray, List.map_cons, List.map_nil]); first | done | rfl | (simp only [List.length_drop, List.length_take]; rfl)) ?_; (with_reducible refine (impl_VtBytes.calls kj8 ((⟨#[98]⟩ : ByteArray) ++ t167) t171 true _ (Given.Glob.below HG.out (by repeat (first | (with_reducible first | exact HB.out | apply below_alloc | apply pw_below_drewN | apply below_drew1) | exact HB.out)) (Nat.le_refl _)) A14.out).mono ?_); rintro e w26 ⟨rfl, hb⟩; refine ⟨_, rfl, ?_⟩; have n0_ := Aside0.mk (below_step (by repeat (first | (with_reducible first | exact HB.out | apply below_alloc | apply pw_below_drewN | apply below_drew1) | exact HB.out)) hb); clear HB; have HB := n0_; clear n0_; (try clear hb); (try clear hb2); (try clear hk); (try clear hi)) | ((with_reducible refine gate_callee (f := 7) rfl ?_); refine goesL_ (some 72) rfl rfl Tryd.func7 (by kernel_rfl) rfl #[.string ((⟨#[98]⟩ : ByteArray) ++ t169)] rfl (by (try simp only [List.map_toArray, List.map_cons, List.map_nil]); first | done | rfl | (simp only [List.length_drop, List.length_take]; rfl)) ?_; (with_reducible refine (impl_VtBytes.calls kj8 ((⟨#[98]⟩ : ByteArray) ++ t169) t173 t174 _ (Given.Glob.below HG.out (by repeat (first | (with_reducible first | exact HB.out | apply below_alloc | apply pw_below_drewN | apply below_drew1) | exact HB.out)) (Nat.le_refl _)) A17.out).mono ?_); rintro e w27 ⟨rfl, hb⟩; refine ⟨_, rfl, ?_⟩; have n0_ := Aside0.mk (below_step (by repeat (first | (with_reducible first | exact HB.out | apply below_alloc | apply pw_below_drewN | apply below_drew1) | exact HB.out)) hb); clear HB; have HB := n0_; clear n0_; (try clear hb); (try clear hb2); (try clear hk); (try clear hi)))
                                have n0_ := Aside0.mk (below_drew1 HB.out)
                                clear HB
                                have HB := n0_
                                clear n0_
                                refine start_ (n := 15) (S := fun w' => True) (ds := []) #[false, false, false, false, false, false, false, false, false, false, false, false, false, false, false] (by kernel_rfl) rfl rfl trivial (fun hHeld => ?_); refine with_tabW laws_FnVtBytesJoin.tab12 laws_FnVtBytesJoin.bits12 (fun HT_ HW_ => ?_)
                                generalize w27.drew = w28 at HB hHeld ⊢
                                refine pure_ (i := 0) (N := some 76) (v := ?_) (a' := ?_) #[true, false, false, false, false, false, false, false, false, false, false, false, false, false, false] rfl rfl (any_of HT_.out (by kernel_rfl)) (fun _ _ _ h => h) (Or.inl ⟨by rfl, ?_⟩) ?_ ?_
                                rotate_left
                                · intro w'
                                  go_simp
                                  with_reducible rfl
                                rotate_left
                                · simp only [Act.put, List.setIfInBounds_toArray, List.set_cons_zero, List.set_cons_succ, i64_w, i32_w]
                                  rfl
                                refine pure_ (i := 1) (N := some 77) (v := ?_) (a' := ?_) #[true, true, false, false, false, false, false, false, false, false, false, false, false, false, false] rfl rfl (any_of HT_.out (by kernel_rfl)) (fun _ _ _ h => h) (Or.inl ⟨by rfl, ?_⟩) ?_ ?_
                                rotate_left
                                · intro w'
                                  go_simp
                                  with_reducible rfl
                                rotate_left
                                · simp only [Act.put, List.setIfInBounds_toArray, List.set_cons_zero, List.set_cons_succ, i64_w, i32_w]
                                  rfl
                                refine pure_ (i := 2) (N := some 78) (v := ?_) (a' := ?_) #[true, true, true, false, false, false, false, false, false, false, false, false, false, false, false] rfl rfl (any_of HT_.out (by kernel_rfl)) (fun _ _ _ h => h) (Or.inl ⟨by rfl, ?_⟩) ?_ ?_
                                rotate_left
                                · intro w'
                                  go_simp
                                  with_reducible rfl
                                rotate_left
                                · simp only [Act.put, List.setIfInBounds_toArray, List.set_cons_zero, List.set_cons_succ, i64_w, i32_w]
                                  rfl
                                refine pure_ (i := 3) (N := some 79) (v := ?_) (a' := ?_) #[true, true, true, true, false, false, false, false, false, false, false, false, false, false, false] rfl rfl (any_of HT_.out (by kernel_rfl)) (fun _ _ _ h => h) (Or.inl ⟨by rfl, ?_⟩) ?_ ?_
                                rotate_left
                                · intro w'
                                  go_simp
                                  with_reducible rfl
                                rotate_left
                                · simp only [Act.put, List.setIfInBounds_toArray, List.set_cons_zero, List.set_cons_succ, i64_w, i32_w]
                                  rfl
                                refine pure_ (i := 4) (N := some 80) (v := ?_) (a' := ?_) #[true, true, true, true, true, false, false, false, false, false, false, false, false, false, false] rfl rfl (any_of HT_.out (by kernel_rfl)) (fun _ _ _ h => h) (Or.inl ⟨by rfl, ?_⟩) ?_ ?_
                                rotate_left
                                · intro w'
                                  go_simp
                                  with_reducible rfl
                                rotate_left
                                · simp only [Act.put, List.setIfInBounds_toArray, List.set_cons_zero, List.set_cons_succ, i64_w, i32_w]
                                  rfl
                                refine pure_ (i := 5) (N := some 81) (v := ?_) (a' := ?_) #[true, true, true, true, true, true, false, false, false, false, false, false, false, false, false] rfl rfl (any_of HT_.out (by kernel_rfl)) (fun _ _ _ h => h) (Or.inl ⟨by rfl, ?_⟩) ?_ ?_
                                rotate_left
                                · intro w'
                                  go_simp
                                  with_reducible rfl
                                rotate_left
                                · simp only [Act.put, List.setIfInBounds_toArray, List.set_cons_zero, List.set_cons_succ, i64_w, i32_w]
                                  rfl
                                refine pure_ (i := 6) (N := some 82) (v := ?_) (a' := ?_) #[true, true, true, true, true, true, true, false, false, false, false, false, false, false, false] rfl rfl (any_of HT_.out (by kernel_rfl)) (fun _ _ _ h => h) (Or.inl ⟨by rfl, ?_⟩) ?_ ?_
                                rotate_left
                                · intro w'
                                  go_simp
                                  with_reducible rfl
                                rotate_left
                                · simp only [Act.put, List.setIfInBounds_toArray, List.set_cons_zero, List.set_cons_succ, i64_w, i32_w]
                                  rfl
                                refine pure_ (i := 7) (N := some 83) (v := ?_) (a' := ?_) #[true, true, true, true, true, true, true, true, false, false, false, false, false, false, false] rfl rfl (any_of HT_.out (by kernel_rfl)) (fun _ _ _ h => h) (Or.inl ⟨by rfl, ?_⟩) ?_ ?_
                                rotate_left
                                · intro w'
                                  go_simp
                                  with_reducible rfl
                                rotate_left
                                · simp only [Act.put, List.setIfInBounds_toArray, List.set_cons_zero, List.set_cons_succ, i64_w, i32_w]
                                  rfl
                                refine pure_ (i := 8) (N := some 84) (v := ?_) (a' := ?_) #[true, true, true, true, true, true, true, true, true, false, false, false, false, false, false] rfl rfl (any_of HT_.out (by kernel_rfl)) (fun _ _ _ h => h) (Or.inl ⟨by rfl, ?_⟩) ?_ ?_
                                rotate_left
                                · intro w'
                                  go_simp
                                  with_reducible rfl
                                rotate_left
                                · simp only [Act.put, List.setIfInBounds_toArray, List.set_cons_zero, List.set_cons_succ, i64_w, i32_w]
                                  rfl
                                refine one_ (i := 9) (N := some 85) #[true, true, true, true, true, true, true, true, true, true, false, false, false, false, false] rfl rfl (one_of HT_.out (by kernel_rfl)) (by decide) (fun K hK => ?_)
                                refine goes_ Tryd.func7 (by kernel_rfl) rfl #[.string (((⟨#[98]⟩ : ByteArray) ++ (t167.extract 0 ((ji18) : Int).toNat)) ++ (t169.extract 1 t169.size))] (by rfl) rfl rfl (by (try simp only [List.map_toArray, List.map_cons, List.map_nil]); first | done | (simp only [hji18]; rfl) | rfl | (simp only [List.length_drop, List.length_take]; rfl)) ?_
                                with_reducible refine (impl_VtBytes.calls kj8 (((⟨#[98]⟩ : ByteArray) ++ (t167.extract 0 ((ji18) : Int).toNat)) ++ (t169.extract 1 t169.size)) t175 t176 _ (Given.Glob.below HG.out (by repeat (first | (with_reducible first | exact HB.out | apply below_alloc | apply pw_below_drewN | apply below_drew1) | exact HB.out)) (Nat.le_refl _)) A24.out).mono ?_
                                rintro e w29 ⟨rfl, hb⟩
                                refine ⟨_, rfl, ?_⟩
                                have n0_ := Aside0.mk (below_step (by repeat (first | (with_reducible first | exact HB.out | apply below_alloc | apply pw_below_drewN | apply below_drew1) | exact HB.out)) hb)
                                clear HB
                                have HB := n0_
                                clear n0_
                                (try clear hb)
                                (try clear hb2)
                                (try clear hk)
                                (try clear hi)
                                refine hK.out _ _ trivial (fun hHeld => ?_)
                                clear hK K
                                refine norm_ (a' := ?_) ?_ ?_
                                rotate_left
                                · show Act.put _ (some 85) _ = _
                                  simp only [Act.put, List.setIfInBounds_toArray, List.set_cons_zero, List.set_cons_succ, i64_w, i32_w]
                                  rfl
                                refine pure_ (i := 10) (N := some 75) (v := ?_) (a' := ?_) #[true, true, true, true, true, true, true, true, true, true, true, false, false, false, false] rfl rfl (any_of HT_.out (by kernel_rfl)) (fun _ _ _ h => h) (Or.inl ⟨by rfl, ?_⟩) ?_ ?_
                                rotate_left
                                · intro w'
                                  go_simp
                                  with_reducible rfl
                                rotate_left
                                · simp only [Act.put, List.setIfInBounds_toArray, List.set_cons_zero, List.set_cons_succ, i64_w, i32_w]
                                  rfl
                                refine pure_ (i := 11) (N := some 86) (v := ?_) (a' := ?_) #[true, true, true, true, true, true, true, true, true, true, true, true, false, false, false] rfl rfl (any_of HT_.out (by kernel_rfl)) (fun _ _ _ h => h) (Or.inl ⟨by rfl, ?_⟩) ?_ ?_
                                rotate_left
                                · intro w'
                                  go_simp
                                  with_reducible rfl
                                rotate_left
                                · simp only [Act.put, List.setIfInBounds_toArray, List.set_cons_zero, List.set_cons_succ, i64_w, i32_w]
                                  rfl
                                refine pure_ (i := 12) (N := some 87) (v := ?_) (a' := ?_) #[true, true, true, true, true, true, true, true, true, true, true, true, true, false, false] rfl rfl (any_of HT_.out (by kernel_rfl)) (fun _ _ _ h => h) (Or.inl ⟨by rfl, ?_⟩) ?_ ?_
                                rotate_left
                                · intro w'
                                  go_simp
                                  with_reducible rfl
                                rotate_left
                                · simp only [Act.put, List.setIfInBounds_toArray, List.set_cons_zero, List.set_cons_succ, i64_w, i32_w]
                                  rfl
                                refine pure_ (i := 13) (N := some 17) (v := ?_) (a' := ?_) #[true, true, true, true, true, true, true, true, true, true, true, true, true, true, false] rfl rfl (any_of HT_.out (by kernel_rfl)) (fun _ _ _ h => h) (Or.inl ⟨by rfl, ?_⟩) ?_ ?_
                                rotate_left
                                · intro w'
                                  go_simp
                                  with_reducible rfl
                                rotate_left
                                · simp only [Act.put, List.setIfInBounds_toArray, List.set_cons_zero, List.set_cons_succ, i64_w, i32_w]
                                  rfl
                                refine pure_ (i := 14) (N := some 18) (v := ?_) (a' := ?_) #[true, true, true, true, true, true, true, true, true, true, true, true, true, true, true] rfl rfl (any_of HT_.out (by kernel_rfl)) (fun _ _ _ h => h) (Or.inl ⟨by rfl, ?_⟩) ?_ ?_
                                rotate_left
                                · intro w'
                                  go_simp
                                  with_reducible rfl
                                rotate_left
                                · simp only [Act.put, List.setIfInBounds_toArray, List.set_cons_zero, List.set_cons_succ, i64_w, i32_w]
                                  rfl
                                refine done_ (done_of HT_.out (by kernel_rfl)) ?_
                                try go_wp2
                                go_ret
                                exact ⟨by first | rfl | (simp [errW_none, errW_some] <;> rfl) | (simp only [← hji18]; first | rfl | (simp [errW_none, errW_some] <;> rfl)) | (simp [*, errW_none, errW_some] <;> rfl), by repeat (first | (with_reducible first | exact HB.out | apply below_alloc | apply pw_below_drewN | apply below_drew1) | exact HB.out)⟩
                              · rw [if_neg c25] at H
                                have c25b0 : (t171.toList == ([] : List UInt8)) = false := beq_eq_false_iff_ne.mpr c25
                                have c25b1 : (t171.toList != ([] : List UInt8)) = true := bne_iff_ne.mpr c25
                                by_cases c30 : (t176 == t174) = true
                                · rw [if_pos c30] at H
                                  have c30b0 : (t176 == t174) = true := c30
                                  (try (have c30b1 : decide (t176 = t174) = true := by simpa using c30))
                                  (try (have c30b2 : (t176 == t174) = true := by simpa using c30))
                                  clear c30
                                  by_cases c31 : t176 = true
                                  · subst c31
                                    have H1 : (if 0 ≤ (wrap64 ((t171.size : Int) - 1)) then (if (wrap64 ((t171.size : Int) - 1)) ≤ (t171.size : Int) then (if (t171.extract 0 ((wrap64 ((t171.size : Int) - 1)) : Int).toNat).size + t173.size ≤ 9223372036854775807 then (some (t175.toList == ((t171.extract 0 ((wrap64 ((t171.size : Int) - 1)) : Int).toNat) ++ t173).toList)) else (none)) else (none)) else (none)) = some r := by rw [if_pos rfl] at H; exact H
                                    clear H
                                    have H := H1
                                    clear H1
                                    obtain ⟨ji32, hji32⟩ : ∃ j_ : Int, (wrap64 ((t171.size : Int) - 1)) = j_ := ⟨_, rfl⟩
                                    replace H : (if 0 ≤ (ji32) then (if (ji32) ≤ (t171.size : Int) then (if (t171.extract 0 ((ji32) : Int).toNat).size + t173.size ≤ 9223372036854775807 then (some (t175.toList == ((t171.extract 0 ((ji32) : Int).toNat) ++ t173).toList)) else (none)) else (none)) else (none)) = some r := by first | (rw [hji32] at H; exact H) | (simp only [hji32] at H ⊢; exact H)
                                    (try rw [hji32] at A14)
                                    (try rw [hji32] at A17)
                                    (try rw [hji32] at A24)
                                    have hji32w : (IntKind.i64.wrap ((t171.size : Int) - 1)) = ji32 := (i64_w _).trans hji32
                                    by_cases c33 : 0 ≤ (ji32)
                                    · rw [if_pos c33] at H
                                      have c33b0 := eq_true c33
                                      have c33b1 : decide (0 ≤ (ji32)) = true := decide_eq_true c33
                                      clear c33
                                      by_cases c34 : (ji32) ≤ (t171.size : Int)
                                      · rw [if_pos c34] at H
                                        have c34b0 := eq_true c34
                                        have c34b1 : decide ((ji32) ≤ (t171.size : Int)) = true := decide_eq_true c34
                                        clear c34
                                        by_cases c35 : (t171.extract 0 ((ji32) : Int).toNat).size + t173.size ≤ 9223372036854775807
                                        · rw [if_pos c35] at H
                                          have c35b0 := eq_true c35
                                          have c35b1 : decide ((t171.extract 0 ((ji32) : Int).toNat).size + t173.size ≤ 9223372036854775807) = true := decide_eq_true c35
                                          try have c35b2 : (9223372036854775807 < (t171.extract 0 ((ji32) : Int).toNat).size + t173.size) = False := eq_false (Nat.not_lt.2 c35)
                                          have hs_c : (t171.extract 0 (ji32 : Int).toNat).size = ji32.toNat := by have h_ := of_eq_true c34b0; rw [ByteArray.size_extract]; omega
                                          have hz_c : (9223372036854775807 < ji32.toNat + t173.size) = False := by rw [← hs_c]; exact eq_false (Nat.not_lt.2 c35)
                                          clear hs_c
                                          obtain rfl := Option.some.inj H
                                          try go_wp2_with (first | ((with_reducible refine gate_callee (f := 7) rfl ?_); refine goesL_ (some 56) rfl rfl Tryd.func7 (by kernel_rfl) rfl #[.string ((⟨#[98]⟩ : ByteArray) ++ t167)] rfl (by (try simp only [List.map_toArray, List.map_cons, List.map_nil]); first | done | rfl | (simp only [List.length_drop, List.length_take]; rfl)) ?_; (with_reducible refine (impl_VtBytes.calls kj8 ((⟨#[98]⟩ : ByteArray) ++ t167) t171 true _ (Given.Glob.below HG.out (by repeat (first | (with_reducible first | exact HB.out | apply below_alloc | apply pw_below_drewN | apply below_drew1) | exact HB.out)) (Nat.le_refl _)) A14.out).mono ?_); rintro e w36 ⟨rfl, hb⟩; refine ⟨_, rfl, ?_⟩; have n0_ := Aside0.mk (below_step (by repeat (first | (with_reducible first | exact HB.out | apply below_alloc | apply pw_below_drewN | apply below_drew1) | exact HB.out)) hb); clear HB; have HB := n0_; clear n0_; (try clear hb); (try clear hb2); (try clear hk); (try clear hi)) | ((with_reducible refine gate_callee (f := 7) rfl ?_); refine goesL_ (some 72) rfl rfl Tryd.func7 (by kernel_rfl) rfl #[.string ((⟨#[98]⟩ : ByteArray) ++ t169)] rfl (by (try simp only [List.map_toArray, List.map_cons, List.map_nil]); first | done | rfl | (simp only [List.length_drop, List.length_take]; rfl)) ?_; (with_reducible refine (impl_VtBytes.calls kj8 ((⟨#[98]⟩ : ByteArray) ++ t169) t173 t174 _ (Given.Glob.below HG.out (by repeat (first | (with_reducible first | exact HB.out | apply below_alloc | apply pw_below_drewN | apply below_drew1) | exact HB.out)) (Nat.le_refl _)) A17.out).mono ?_); rintro e w37 ⟨rfl, hb⟩; refine ⟨_, rfl, ?_⟩; have n0_ := Aside0.mk (below_step (by repeat (first | (with_reducible first | exact HB.out | apply below_alloc | apply pw_below_drewN | apply below_drew1) | exact HB.out)) hb); clear HB; have HB := n0_; clear n0_; (try clear hb); (try clear hb2); (try clear hk); (try clear hi)))
                                          have n0_ := Aside0.mk (below_drew1 HB.out)
                                          clear HB
                                          have HB := n0_
                                          clear n0_
                                          refine start_ (n := 15) (S := fun w' => True) (ds := []) #[false, false, false, false, false, false, false, false, false, false, false, false, false, false, false] (by kernel_rfl) rfl rfl trivial (fun hHeld => ?_); refine with_tabW laws_FnVtBytesJoin.tab12 laws_FnVtBytesJoin.bits12 (fun HT_ HW_ => ?_)
                                          generalize w37.drew = w38 at HB hHeld ⊢
                                          refine pure_ (i := 0) (N := some 76) (v := ?_) (a' := ?_) #[true, false, false, false, false, false, false, false, false, false, false, false, false, false, false] rfl rfl (any_of HT_.out (by kernel_rfl)) (fun _ _ _ h => h) (Or.inl ⟨by rfl, ?_⟩) ?_ ?_
                                          rotate_left
                                          · intro w'
                                            go_simp
                                            with_reducible rfl
                                          rotate_left
                                          · simp only [Act.put, List.setIfInBounds_toArray, List.set_cons_zero, List.set_cons_succ, i64_w, i32_w]
                                            rfl
                                          refine pure_ (i := 1) (N := some 77) (v := ?_) (a' := ?_) #[true, true, false, false, false, false, false, false, false, false, false, false, false, false, false] rfl rfl (any_of HT_.out (by kernel_rfl)) (fun _ _ _ h => h) (Or.inl ⟨by rfl, ?_⟩) ?_ ?_
                                          rotate_left
                                          · intro w'
                                            go_simp
                                            with_reducible rfl
                                          rotate_left
                                          · simp only [Act.put, List.setIfInBounds_toArray, List.set_cons_zero, List.set_cons_succ, i64_w, i32_w]
                                            rfl
                                          refine pure_ (i := 2) (N := some 78) (v := ?_) (a' := ?_) #[true, true, true, false, false, false, false, false, false, false, false, false, false, false, false] rfl rfl (any_of HT_.out (by kernel_rfl)) (fun _ _ _ h => h) (Or.inl ⟨by rfl, ?_⟩) ?_ ?_
                                          rotate_left
                                          · intro w'
                                            go_simp
                                            with_reducible rfl
                                          rotate_left
                                          · simp only [Act.put, List.setIfInBounds_toArray, List.set_cons_zero, List.set_cons_succ, i64_w, i32_w]
                                            rfl
                                          refine pure_ (i := 3) (N := some 79) (v := ?_) (a' := ?_) #[true, true, true, true, false, false, false, false, false, false, false, false, false, false, false] rfl rfl (any_of HT_.out (by kernel_rfl)) (fun _ _ _ h => h) (Or.inl ⟨by rfl, ?_⟩) ?_ ?_
                                          rotate_left
                                          · intro w'
                                            go_simp
                                            with_reducible rfl
                                          rotate_left
                                          · simp only [Act.put, List.setIfInBounds_toArray, List.set_cons_zero, List.set_cons_succ, i64_w, i32_w]
                                            rfl
                                          refine pure_ (i := 4) (N := some 80) (v := ?_) (a' := ?_) #[true, true, true, true, true, false, false, false, false, false, false, false, false, false, false] rfl rfl (any_of HT_.out (by kernel_rfl)) (fun _ _ _ h => h) (Or.inl ⟨by rfl, ?_⟩) ?_ ?_
                                          rotate_left
                                          · intro w'
                                            go_simp
                                            with_reducible rfl
                                          rotate_left
                                          · simp only [Act.put, List.setIfInBounds_toArray, List.set_cons_zero, List.set_cons_succ, i64_w, i32_w]
                                            rfl
                                          refine pure_ (i := 5) (N := some 81) (v := ?_) (a' := ?_) #[true, true, true, true, true, true, false, false, false, false, false, false, false, false, false] rfl rfl (any_of HT_.out (by kernel_rfl)) (fun _ _ _ h => h) (Or.inl ⟨by rfl, ?_⟩) ?_ ?_
                                          rotate_left
                                          · intro w'
                                            go_simp
                                            with_reducible rfl
                                          rotate_left
                                          · simp only [Act.put, List.setIfInBounds_toArray, List.set_cons_zero, List.set_cons_succ, i64_w, i32_w]
                                            rfl
                                          refine pure_ (i := 6) (N := some 82) (v := ?_) (a' := ?_) #[true, true, true, true, true, true, true, false, false, false, false, false, false, false, false] rfl rfl (any_of HT_.out (by kernel_rfl)) (fun _ _ _ h => h) (Or.inl ⟨by rfl, ?_⟩) ?_ ?_
                                          rotate_left
                                          · intro w'
                                            go_simp
                                            with_reducible rfl
                                          rotate_left
                                          · simp only [Act.put, List.setIfInBounds_toArray, List.set_cons_zero, List.set_cons_succ, i64_w, i32_w]
                                            rfl
                                          refine pure_ (i := 7) (N := some 83) (v := ?_) (a' := ?_) #[true, true, true, true, true, true, true, true, false, false, false, false, false, false, false] rfl rfl (any_of HT_.out (by kernel_rfl)) (fun _ _ _ h => h) (Or.inl ⟨by rfl, ?_⟩) ?_ ?_
                                          rotate_left
                                          · intro w'
                                            go_simp
                                            with_reducible rfl
                                          rotate_left
                                          · simp only [Act.put, List.setIfInBounds_toArray, List.set_cons_zero, List.set_cons_succ, i64_w, i32_w]
                                            rfl
                                          refine pure_ (i := 8) (N := some 84) (v := ?_) (a' := ?_) #[true, true, true, true, true, true, true, true, true, false, false, false, false, false, false] rfl rfl (any_of HT_.out (by kernel_rfl)) (fun _ _ _ h => h) (Or.inl ⟨by rfl, ?_⟩) ?_ ?_
                                          rotate_left
                                          · intro w'
                                            go_simp
                                            with_reducible rfl
                                          rotate_left
                                          · simp only [Act.put, List.setIfInBounds_toArray, List.set_cons_zero, List.set_cons_succ, i64_w, i32_w]
                                            rfl
                                          refine one_ (i := 9) (N := some 85) #[true, true, true, true, true, true, true, true, true, true, false, false, false, false, false] rfl rfl (one_of HT_.out (by kernel_rfl)) (by decide) (fun K hK => ?_)
                                          refine goes_ Tryd.func7 (by kernel_rfl) rfl #[.string (((⟨#[98]⟩ : ByteArray) ++ (t167.extract 0 ((ji18) : Int).toNat)) ++ (t169.extract 1 t169.size))] (by rfl) rfl rfl (by (try simp only [List.map_toArray, List.map_cons, List.map_nil]); first | done | (simp only [hji18]; rfl) | rfl | (simp only [List.length_drop, List.length_take]; rfl)) ?_
                                          with_reducible refine (impl_VtBytes.calls kj8 (((⟨#[98]⟩ : ByteArray) ++ (t167.extract 0 ((ji18) : Int).toNat)) ++ (t169.extract 1 t169.size)) t175 true _ (Given.Glob.below HG.out (by repeat (first | (with_reducible first | exact HB.out | apply below_alloc | apply pw_below_drewN | apply below_drew1) | exact HB.out)) (Nat.le_refl _)) A24.out).mono ?_
                                          rintro e w39 ⟨rfl, hb⟩
                                          refine ⟨_, rfl, ?_⟩
                                          have n0_ := Aside0.mk (below_step (by repeat (first | (with_reducible first | exact HB.out | apply below_alloc | apply pw_below_drewN | apply below_drew1) | exact HB.out)) hb)
                                          clear HB
                                          have HB := n0_
                                          clear n0_
                                          (try clear hb)
                                          (try clear hb2)
                                          (try clear hk)
                                          (try clear hi)
                                          refine hK.out _ _ trivial (fun hHeld => ?_)
                                          clear hK K
                                          refine norm_ (a' := ?_) ?_ ?_
                                          rotate_left
                                          · show Act.put _ (some 85) _ = _
                                            simp only [Act.put, List.setIfInBounds_toArray, List.set_cons_zero, List.set_cons_succ, i64_w, i32_w]
                                            rfl
                                          refine pure_ (i := 10) (N := some 75) (v := ?_) (a' := ?_) #[true, true, true, true, true, true, true, true, true, true, true, false, false, false, false] rfl rfl (any_of HT_.out (by kernel_rfl)) (fun _ _ _ h => h) (Or.inl ⟨by rfl, ?_⟩) ?_ ?_
                                          rotate_left
                                          · intro w'
                                            go_simp
                                            with_reducible rfl
                                          rotate_left
                                          · simp only [Act.put, List.setIfInBounds_toArray, List.set_cons_zero, List.set_cons_succ, i64_w, i32_w]
                                            rfl
                                          refine pure_ (i := 11) (N := some 86) (v := ?_) (a' := ?_) #[true, true, true, true, true, true, true, true, true, true, true, true, false, false, false] rfl rfl (any_of HT_.out (by kernel_rfl)) (fun _ _ _ h => h) (Or.inl ⟨by rfl, ?_⟩) ?_ ?_
                                          rotate_left
                                          · intro w'
                                            go_simp
                                            with_reducible rfl
                                          rotate_left
                                          · simp only [Act.put, List.setIfInBounds_toArray, List.set_cons_zero, List.set_cons_succ, i64_w, i32_w]
                                            rfl
                                          refine pure_ (i := 12) (N := some 87) (v := ?_) (a' := ?_) #[true, true, true, true, true, true, true, true, true, true, true, true, true, false, false] rfl rfl (any_of HT_.out (by kernel_rfl)) (fun _ _ _ h => h) (Or.inl ⟨by rfl, ?_⟩) ?_ ?_
                                          rotate_left
                                          · intro w'
                                            go_simp
                                            with_reducible rfl
                                          rotate_left
                                          · simp only [Act.put, List.setIfInBounds_toArray, List.set_cons_zero, List.set_cons_succ, i64_w, i32_w]
                                            rfl
                                          refine pure_ (i := 13) (N := some 17) (v := ?_) (a' := ?_) #[true, true, true, true, true, true, true, true, true, true, true, true, true, true, false] rfl rfl (any_of HT_.out (by kernel_rfl)) (fun _ _ _ h => h) (Or.inl ⟨by rfl, ?_⟩) ?_ ?_
                                          rotate_left
                                          · intro w'
                                            go_simp
                                            with_reducible rfl
                                          rotate_left
                                          · simp only [Act.put, List.setIfInBounds_toArray, List.set_cons_zero, List.set_cons_succ, i64_w, i32_w]
                                            rfl
                                          refine pure_ (i := 14) (N := some 18) (v := ?_) (a' := ?_) #[true, true, true, true, true, true, true, true, true, true, true, true, true, true, true] rfl rfl (any_of HT_.out (by kernel_rfl)) (fun _ _ _ h => h) (Or.inl ⟨by rfl, ?_⟩) ?_ ?_
                                          rotate_left
                                          · intro w'
                                            go_simp
                                            with_reducible rfl
                                          rotate_left
                                          · simp only [Act.put, List.setIfInBounds_toArray, List.set_cons_zero, List.set_cons_succ, i64_w, i32_w]
                                            rfl
                                          refine done_ (done_of HT_.out (by kernel_rfl)) ?_
                                          try go_wp2
                                          go_ret
                                          exact ⟨by first | rfl | (simp [errW_none, errW_some] <;> rfl) | (simp only [← hji18, ← hji32]; first | rfl | (simp [errW_none, errW_some] <;> rfl)) | (simp [*, errW_none, errW_some] <;> rfl), by repeat (first | (with_reducible first | exact HB.out | apply below_alloc | apply pw_below_drewN | apply below_drew1) | exact HB.out)⟩
                                        · rw [if_neg c35] at H
                                          exact absurd H (by simp)
                                      · rw [if_neg c34] at H
                                        exact absurd H (by simp)
                                    · rw [if_neg c33] at H
                                      exact absurd H (by simp)
                                  · replace c31 := Bool.eq_false_iff.mpr c31
                                    subst c31
                                    have H1 : (some true) = some r := by rw [if_neg (show ¬ (false = true) by decide)] at H; exact H
                                    clear H
                                    have H := H1
                                    clear H1
                                    obtain rfl := Option.some.inj H
                                    try go_wp2_with (first | ((with_reducible refine gate_callee (f := 7) rfl ?_); refine goesL_ (some 56) rfl rfl Tryd.func7 (by kernel_rfl) rfl #[.string ((⟨#[98]⟩ : ByteArray) ++ t167)] rfl (by (try simp only [List.map_toArray, List.map_cons, List.map_nil]); first | done | rfl | (simp only [List.length_drop, List.length_take]; rfl)) ?_; (with_reducible refine (impl_VtBytes.calls kj8 ((⟨#[98]⟩ : ByteArray) ++ t167) t171 true _ (Given.Glob.below HG.out (by repeat (first | (with_reducible first | exact HB.out | apply below_alloc | apply pw_below_drewN | apply below_drew1) | exact HB.out)) (Nat.le_refl _)) A14.out).mono ?_); rintro e w40 ⟨rfl, hb⟩; refine ⟨_, rfl, ?_⟩; have n0_ := Aside0.mk (below_step (by repeat (first | (with_reducible first | exact HB.out | apply below_alloc | apply pw_below_drewN | apply below_drew1) | exact HB.out)) hb); clear HB; have HB := n0_; clear n0_; (try clear hb); (try clear hb2); (try clear hk); (try clear hi)) | ((with_reducible refine gate_callee (f := 7) rfl ?_); refine goesL_ (some 72) rfl rfl Tryd.func7 (by kernel_rfl) rfl #[.string ((⟨#[98]⟩ : ByteArray) ++ t169)] rfl (by (try simp only [List.map_toArray, List.map_cons, List.map_nil]); first | done | rfl | (simp only [List.length_drop, List.length_take]; rfl)) ?_; (with_reducible refine (impl_VtBytes.calls kj8 ((⟨#[98]⟩ : ByteArray) ++ t169) t173 t174 _ (Given.Glob.below HG.out (by repeat (first | (with_reducible first | exact HB.out | apply below_alloc | apply pw_below_drewN | apply below_drew1) | exact HB.out)) (Nat.le_refl _)) A17.out).mono ?_); rintro e w41 ⟨rfl, hb⟩; refine ⟨_, rfl, ?_⟩; have n0_ := Aside0.mk (below_step (by repeat (first | (with_reducible first | exact HB.out | apply below_alloc | apply pw_below_drewN | apply below_drew1) | exact HB.out)) hb); clear HB; have HB := n0_; clear n0_; (try clear hb); (try clear hb2); (try clear hk); (try clear hi)))
                                    have n0_ := Aside0.mk (below_drew1 HB.out)
                                    clear HB
                                    have HB := n0_
                                    clear n0_
                                    refine start_ (n := 15) (S := fun w' => True) (ds := []) #[false, false, false, false, false, false, false, false, false, false, false, false, false, false, false] (by kernel_rfl) rfl rfl trivial (fun hHeld => ?_); refine with_tabW laws_FnVtBytesJoin.tab12 laws_FnVtBytesJoin.bits12 (fun HT_ HW_ => ?_)
                                    generalize w41.drew = w42 at HB hHeld ⊢
                                    refine pure_ (i := 0) (N := some 76) (v := ?_) (a' := ?_) #[true, false, false, false, false, false, false, false, false, false, false, false, false, false, false] rfl rfl (any_of HT_.out (by kernel_rfl)) (fun _ _ _ h => h) (Or.inl ⟨by rfl, ?_⟩) ?_ ?_
                                    rotate_left
                                    · intro w'
                                      go_simp
                                      with_reducible rfl
                                    rotate_left
                                    · simp only [Act.put, List.setIfInBounds_toArray, List.set_cons_zero, List.set_cons_succ, i64_w, i32_w]
                                      rfl
                                    refine pure_ (i := 1) (N := some 77) (v := ?_) (a' := ?_) #[true, true, false, false, false, false, false, false, false, false, false, false, false, false, false] rfl rfl (any_of HT_.out (by kernel_rfl)) (fun _ _ _ h => h) (Or.inl ⟨by rfl, ?_⟩) ?_ ?_
                                    rotate_left
                                    · intro w'
                                      go_simp
                                      with_reducible rfl
                                    rotate_left
                                    · simp only [Act.put, List.setIfInBounds_toArray, List.set_cons_zero, List.set_cons_succ, i64_w, i32_w]
                                      rfl
                                    refine pure_ (i := 2) (N := some 78) (v := ?_) (a' := ?_) #[true, true, true, false, false, false, false, false, false, false, false, false, false, false, false] rfl rfl (any_of HT_.out (by kernel_rfl)) (fun _ _ _ h => h) (Or.inl ⟨by rfl, ?_⟩) ?_ ?_
                                    rotate_left
                                    · intro w'
                                      go_simp
                                      with_reducible rfl
                                    rotate_left
                                    · simp only [Act.put, List.setIfInBounds_toArray, List.set_cons_zero, List.set_cons_succ, i64_w, i32_w]
                                      rfl
                                    refine pure_ (i := 3) (N := some 79) (v := ?_) (a' := ?_) #[true, true, true, true, false, false, false, false, false, false, false, false, false, false, false] rfl rfl (any_of HT_.out (by kernel_rfl)) (fun _ _ _ h => h) (Or.inl ⟨by rfl, ?_⟩) ?_ ?_
                                    rotate_left
                                    · intro w'
                                      go_simp
                                      with_reducible rfl
                                    rotate_left
                                    · simp only [Act.put, List.setIfInBounds_toArray, List.set_cons_zero, List.set_cons_succ, i64_w, i32_w]
                                      rfl
                                    refine pure_ (i := 4) (N := some 80) (v := ?_) (a' := ?_) #[true, true, true, true, true, false, false, false, false, false, false, false, false, false, false] rfl rfl (any_of HT_.out (by kernel_rfl)) (fun _ _ _ h => h) (Or.inl ⟨by rfl, ?_⟩) ?_ ?_
                                    rotate_left
                                    · intro w'
                                      go_simp
                                      with_reducible rfl
                                    rotate_left
                                    · simp only [Act.put, List.setIfInBounds_toArray, List.set_cons_zero, List.set_cons_succ, i64_w, i32_w]
                                      rfl
                                    refine pure_ (i := 5) (N := some 81) (v := ?_) (a' := ?_) #[true, true, true, true, true, true, false, false, false, false, false, false, false, false, false] rfl rfl (any_of HT_.out (by kernel_rfl)) (fun _ _ _ h => h) (Or.inl ⟨by rfl, ?_⟩) ?_ ?_
                                    rotate_left
                                    · intro w'
                                      go_simp
                                      with_reducible rfl
                                    rotate_left
                                    · simp only [Act.put, List.setIfInBounds_toArray, List.set_cons_zero, List.set_cons_succ, i64_w, i32_w]
                                      rfl
                                    refine pure_ (i := 6) (N := some 82) (v := ?_) (a' := ?_) #[true, true, true, true, true, true, true, false, false, false, false, false, false, false, false] rfl rfl (any_of HT_.out (by kernel_rfl)) (fun _ _ _ h => h) (Or.inl ⟨by rfl, ?_⟩) ?_ ?_
                                    rotate_left
                                    · intro w'
                                      go_simp
                                      with_reducible rfl
                                    rotate_left
                                    · simp only [Act.put, List.setIfInBounds_toArray, List.set_cons_zero, List.set_cons_succ, i64_w, i32_w]
                                      rfl
                                    refine pure_ (i := 7) (N := some 83) (v := ?_) (a' := ?_) #[true, true, true, true, true, true, true, true, false, false, false, false, false, false, false] rfl rfl (any_of HT_.out (by kernel_rfl)) (fun _ _ _ h => h) (Or.inl ⟨by rfl, ?_⟩) ?_ ?_
                                    rotate_left
                                    · intro w'
                                      go_simp
                                      with_reducible rfl
                                    rotate_left
                                    · simp only [Act.put, List.setIfInBounds_toArray, List.set_cons_zero, List.set_cons_succ, i64_w, i32_w]
                                      rfl
                                    refine pure_ (i := 8) (N := some 84) (v := ?_) (a' := ?_) #[true, true, true, true, true, true, true, true, true, false, false, false, false, false, false] rfl rfl (any_of HT_.out (by kernel_rfl)) (fun _ _ _ h => h) (Or.inl ⟨by rfl, ?_⟩) ?_ ?_
                                    rotate_left
                                    · intro w'
                                      go_simp
                                      with_reducible rfl
                                    rotate_left
                                    · simp only [Act.put, List.setIfInBounds_toArray, List.set_cons_zero, List.set_cons_succ, i64_w, i32_w]
                                      rfl
                                    refine one_ (i := 9) (N := some 85) #[true, true, true, true, true, true, true, true, true, true, false, false, false, false, false] rfl rfl (one_of HT_.out (by kernel_rfl)) (by decide) (fun K hK => ?_)
                                    refine goes_ Tryd.func7 (by kernel_rfl) rfl #[.string (((⟨#[98]⟩ : ByteArray) ++ (t167.extract 0 ((ji18) : Int).toNat)) ++ (t169.extract 1 t169.size))] (by rfl) rfl rfl (by (try simp only [List.map_toArray, List.map_cons, List.map_nil]); first | done | (simp only [hji18]; rfl) | rfl | (simp only [List.length_drop, List.length_take]; rfl)) ?_
                                    with_reducible refine (impl_VtBytes.calls kj8 (((⟨#[98]⟩ : ByteArray) ++ (t167.extract 0 ((ji18) : Int).toNat)) ++ (t169.extract 1 t169.size)) t175 false _ (Given.Glob.below HG.out (by repeat (first | (with_reducible first | exact HB.out | apply below_alloc | apply pw_below_drewN | apply below_drew1) | exact HB.out)) (Nat.le_refl _)) A24.out).mono ?_
                                    rintro e w43 ⟨rfl, hb⟩
                                    refine ⟨_, rfl, ?_⟩
                                    have n0_ := Aside0.mk (below_step (by repeat (first | (with_reducible first | exact HB.out | apply below_alloc | apply pw_below_drewN | apply below_drew1) | exact HB.out)) hb)
                                    clear HB
                                    have HB := n0_
                                    clear n0_
                                    (try clear hb)
                                    (try clear hb2)
                                    (try clear hk)
                                    (try clear hi)
                                    refine hK.out _ _ trivial (fun hHeld => ?_)
                                    clear hK K
                                    refine norm_ (a' := ?_) ?_ ?_
                                    rotate_left
                                    · show Act.put _ (some 85) _ = _
                                      simp only [Act.put, List.setIfInBounds_toArray, List.set_cons_zero, List.set_cons_succ, i64_w, i32_w]
                                      rfl
                                    refine pure_ (i := 10) (N := some 75) (v := ?_) (a' := ?_) #[true, true, true, true, true, true, true, true, true, true, true, false, false, false, false] rfl rfl (any_of HT_.out (by kernel_rfl)) (fun _ _ _ h => h) (Or.inl ⟨by rfl, ?_⟩) ?_ ?_
                                    rotate_left
                                    · intro w'
                                      go_simp
                                      with_reducible rfl
                                    rotate_left
                                    · simp only [Act.put, List.setIfInBounds_toArray, List.set_cons_zero, List.set_cons_succ, i64_w, i32_w]
                                      rfl
                                    refine pure_ (i := 11) (N := some 86) (v := ?_) (a' := ?_) #[true, true, true, true, true, true, true, true, true, true, true, true, false, false, false] rfl rfl (any_of HT_.out (by kernel_rfl)) (fun _ _ _ h => h) (Or.inl ⟨by rfl, ?_⟩) ?_ ?_
                                    rotate_left
                                    · intro w'
                                      go_simp
                                      with_reducible rfl
                                    rotate_left
                                    · simp only [Act.put, List.setIfInBounds_toArray, List.set_cons_zero, List.set_cons_succ, i64_w, i32_w]
                                      rfl
                                    refine pure_ (i := 12) (N := some 87) (v := ?_) (a' := ?_) #[true, true, true, true, true, true, true, true, true, true, true, true, true, false, false] rfl rfl (any_of HT_.out (by kernel_rfl)) (fun _ _ _ h => h) (Or.inl ⟨by rfl, ?_⟩) ?_ ?_
                                    rotate_left
                                    · intro w'
                                      go_simp
                                      with_reducible rfl
                                    rotate_left
                                    · simp only [Act.put, List.setIfInBounds_toArray, List.set_cons_zero, List.set_cons_succ, i64_w, i32_w]
                                      rfl
                                    refine pure_ (i := 13) (N := some 17) (v := ?_) (a' := ?_) #[true, true, true, true, true, true, true, true, true, true, true, true, true, true, false] rfl rfl (any_of HT_.out (by kernel_rfl)) (fun _ _ _ h => h) (Or.inl ⟨by rfl, ?_⟩) ?_ ?_
                                    rotate_left
                                    · intro w'
                                      go_simp
                                      with_reducible rfl
                                    rotate_left
                                    · simp only [Act.put, List.setIfInBounds_toArray, List.set_cons_zero, List.set_cons_succ, i64_w, i32_w]
                                      rfl
                                    refine pure_ (i := 14) (N := some 18) (v := ?_) (a' := ?_) #[true, true, true, true, true, true, true, true, true, true, true, true, true, true, true] rfl rfl (any_of HT_.out (by kernel_rfl)) (fun _ _ _ h => h) (Or.inl ⟨by rfl, ?_⟩) ?_ ?_
                                    rotate_left
                                    · intro w'
                                      go_simp
                                      with_reducible rfl
                                    rotate_left
                                    · simp only [Act.put, List.setIfInBounds_toArray, List.set_cons_zero, List.set_cons_succ, i64_w, i32_w]
                                      rfl
                                    refine done_ (done_of HT_.out (by kernel_rfl)) ?_
                                    try go_wp2
                                    go_ret
                                    exact ⟨by first | rfl | (simp [errW_none, errW_some] <;> rfl) | (simp only [← hji18]; first | rfl | (simp [errW_none, errW_some] <;> rfl)) | (simp [*, errW_none, errW_some] <;> rfl), by repeat (first | (with_reducible first | exact HB.out | apply below_alloc | apply pw_below_drewN | apply below_drew1) | exact HB.out)⟩
                                · rw [if_neg c30] at H
                                  have c30b0 : (t176 == t174) = false := by simpa using c30
                                  (try (have c30b1 : decide (t176 = t174) = false := by simpa using c30))
                                  (try (have c30b2 : (t176 == t174) = false := by simpa using c30))
                                  (try (have c30b3 : ¬ (t176 = t174) := by simpa using c30))
                                  clear c30
                                  obtain rfl := Option.some.inj H
                                  try go_wp2_with (first | ((with_reducible refine gate_callee (f := 7) rfl ?_); refine goesL_ (some 56) rfl rfl Tryd.func7 (by kernel_rfl) rfl #[.string ((⟨#[98]⟩ : ByteArray) ++ t167)] rfl (by (try simp only [List.map_toArray, List.map_cons, List.map_nil]); first | done | rfl | (simp only [List.length_drop, List.length_take]; rfl)) ?_; (with_reducible refine (impl_VtBytes.calls kj8 ((⟨#[98]⟩ : ByteArray) ++ t167) t171 true _ (Given.Glob.below HG.out (by repeat (first | (with_reducible first | exact HB.out | apply below_alloc | apply pw_below_drewN | apply below_drew1) | exact HB.out)) (Nat.le_refl _)) A14.out).mono ?_); rintro e w44 ⟨rfl, hb⟩; refine ⟨_, rfl, ?_⟩; have n0_ := Aside0.mk (below_step (by repeat (first | (with_reducible first | exact HB.out | apply below_alloc | apply pw_below_drewN | apply below_drew1) | exact HB.out)) hb); clear HB; have HB := n0_; clear n0_; (try clear hb); (try clear hb2); (try clear hk); (try clear hi)) | ((with_reducible refine gate_callee (f := 7) rfl ?_); refine goesL_ (some 72) rfl rfl Tryd.func7 (by kernel_rfl) rfl #[.string ((⟨#[98]⟩ : ByteArray) ++ t169)] rfl (by (try simp only [List.map_toArray, List.map_cons, List.map_nil]); first | done | rfl | (simp only [List.length_drop, List.length_take]; rfl)) ?_; (with_reducible refine (impl_VtBytes.calls kj8 ((⟨#[98]⟩ : ByteArray) ++ t169) t173 t174 _ (Given.Glob.below HG.out (by repeat (first | (with_reducible first | exact HB.out | apply below_alloc | apply pw_below_drewN | apply below_drew1) | exact HB.out)) (Nat.le_refl _)) A17.out).mono ?_); rintro e w45 ⟨rfl, hb⟩; refine ⟨_, rfl, ?_⟩; have n0_ := Aside0.mk (below_step (by repeat (first | (with_reducible first | exact HB.out | apply below_alloc | apply pw_below_drewN | apply below_drew1) | exact HB.out)) hb); clear HB; have HB := n0_; clear n0_; (try clear hb); (try clear hb2); (try clear hk); (try clear hi)))
                                  have n0_ := Aside0.mk (below_drew1 HB.out)
                                  clear HB
                                  have HB := n0_
                                  clear n0_
                                  refine start_ (n := 15) (S := fun w' => True) (ds := []) #[false, false, false, false, false, false, false, false, false, false, false, false, false, false, false] (by kernel_rfl) rfl rfl trivial (fun hHeld => ?_); refine with_tabW laws_FnVtBytesJoin.tab12 laws_FnVtBytesJoin.bits12 (fun HT_ HW_ => ?_)
                                  generalize w45.drew = w46 at HB hHeld ⊢
                                  refine pure_ (i := 0) (N := some 76) (v := ?_) (a' := ?_) #[true, false, false, false, false, false, false, false, false, false, false, false, false, false, false] rfl rfl (any_of HT_.out (by kernel_rfl)) (fun _ _ _ h => h) (Or.inl ⟨by rfl, ?_⟩) ?_ ?_
                                  rotate_left
                                  · intro w'
                                    go_simp
                                    with_reducible rfl
                                  rotate_left
                                  · simp only [Act.put, List.setIfInBounds_toArray, List.set_cons_zero, List.set_cons_succ, i64_w, i32_w]
                                    rfl
                                  refine pure_ (i := 1) (N := some 77) (v := ?_) (a' := ?_) #[true, true, false, false, false, false, false, false, false, false, false, false, false, false, false] rfl rfl (any_of HT_.out (by kernel_rfl)) (fun _ _ _ h => h) (Or.inl ⟨by rfl, ?_⟩) ?_ ?_
                                  rotate_left
                                  · intro w'
                                    go_simp
                                    with_reducible rfl
                                  rotate_left
                                  · simp only [Act.put, List.setIfInBounds_toArray, List.set_cons_zero, List.set_cons_succ, i64_w, i32_w]
                                    rfl
                                  refine pure_ (i := 2) (N := some 78) (v := ?_) (a' := ?_) #[true, true, true, false, false, false, false, false, false, false, false, false, false, false, false] rfl rfl (any_of HT_.out (by kernel_rfl)) (fun _ _ _ h => h) (Or.inl ⟨by rfl, ?_⟩) ?_ ?_
                                  rotate_left
                                  · intro w'
                                    go_simp
                                    with_reducible rfl
                                  rotate_left
                                  · simp only [Act.put, List.setIfInBounds_toArray, List.set_cons_zero, List.set_cons_succ, i64_w, i32_w]
                                    rfl
                                  refine pure_ (i := 3) (N := some 79) (v := ?_) (a' := ?_) #[true, true, true, true, false, false, false, false, false, false, false, false, false, false, false] rfl rfl (any_of HT_.out (by kernel_rfl)) (fun _ _ _ h => h) (Or.inl ⟨by rfl, ?_⟩) ?_ ?_
                                  rotate_left
                                  · intro w'
                                    go_simp
                                    with_reducible rfl
                                  rotate_left
                                  · simp only [Act.put, List.setIfInBounds_toArray, List.set_cons_zero, List.set_cons_succ, i64_w, i32_w]
                                    rfl
                                  refine pure_ (i := 4) (N := some 80) (v := ?_) (a' := ?_) #[true, true, true, true, true, false, false, false, false, false, false, false, false, false, false] rfl rfl (any_of HT_.out (by kernel_rfl)) (fun _ _ _ h => h) (Or.inl ⟨by rfl, ?_⟩) ?_ ?_
                                  rotate_left
                                  · intro w'
                                    go_simp
                                    with_reducible rfl
                                  rotate_left
                                  · simp only [Act.put, List.setIfInBounds_toArray, List.set_cons_zero, List.set_cons_succ, i64_w, i32_w]
                                    rfl
                                  refine pure_ (i := 5) (N := some 81) (v := ?_) (a' := ?_) #[true, true, true, true, true, true, false, false, false, false, false, false, false, false, false] rfl rfl (any_of HT_.out (by kernel_rfl)) (fun _ _ _ h => h) (Or.inl ⟨by rfl, ?_⟩) ?_ ?_
                                  rotate_left
                                  · intro w'
                                    go_simp
                                    with_reducible rfl
                                  rotate_left
                                  · simp only [Act.put, List.setIfInBounds_toArray, List.set_cons_zero, List.set_cons_succ, i64_w, i32_w]
                                    rfl
                                  refine pure_ (i := 6) (N := some 82) (v := ?_) (a' := ?_) #[true, true, true, true, true, true, true, false, false, false, false, false, false, false, false] rfl rfl (any_of HT_.out (by kernel_rfl)) (fun _ _ _ h => h) (Or.inl ⟨by rfl, ?_⟩) ?_ ?_
                                  rotate_left
                                  · intro w'
                                    go_simp
                                    with_reducible rfl
                                  rotate_left
                                  · simp only [Act.put, List.setIfInBounds_toArray, List.set_cons_zero, List.set_cons_succ, i64_w, i32_w]
                                    rfl
                                  refine pure_ (i := 7) (N := some 83) (v := ?_) (a' := ?_) #[true, true, true, true, true, true, true, true, false, false, false, false, false, false, false] rfl rfl (any_of HT_.out (by kernel_rfl)) (fun _ _ _ h => h) (Or.inl ⟨by rfl, ?_⟩) ?_ ?_
                                  rotate_left
                                  · intro w'
                                    go_simp
                                    with_reducible rfl
                                  rotate_left
                                  · simp only [Act.put, List.setIfInBounds_toArray, List.set_cons_zero, List.set_cons_succ, i64_w, i32_w]
                                    rfl
                                  refine pure_ (i := 8) (N := some 84) (v := ?_) (a' := ?_) #[true, true, true, true, true, true, true, true, true, false, false, false, false, false, false] rfl rfl (any_of HT_.out (by kernel_rfl)) (fun _ _ _ h => h) (Or.inl ⟨by rfl, ?_⟩) ?_ ?_
                                  rotate_left
                                  · intro w'
                                    go_simp
                                    with_reducible rfl
                                  rotate_left
                                  · simp only [Act.put, List.setIfInBounds_toArray, List.set_cons_zero, List.set_cons_succ, i64_w, i32_w]
                                    rfl
                                  refine one_ (i := 9) (N := some 85) #[true, true, true, true, true, true, true, true, true, true, false, false, false, false, false] rfl rfl (one_of HT_.out (by kernel_rfl)) (by decide) (fun K hK => ?_)
                                  refine goes_ Tryd.func7 (by kernel_rfl) rfl #[.string (((⟨#[98]⟩ : ByteArray) ++ (t167.extract 0 ((ji18) : Int).toNat)) ++ (t169.extract 1 t169.size))] (by rfl) rfl rfl (by (try simp only [List.map_toArray, List.map_cons, List.map_nil]); first | done | (simp only [hji18]; rfl) | rfl | (simp only [List.length_drop, List.length_take]; rfl)) ?_
                                  with_reducible refine (impl_VtBytes.calls kj8 (((⟨#[98]⟩ : ByteArray) ++ (t167.extract 0 ((ji18) : Int).toNat)) ++ (t169.extract 1 t169.size)) t175 t176 _ (Given.Glob.below HG.out (by repeat (first | (with_reducible first | exact HB.out | apply below_alloc | apply pw_below_drewN | apply below_drew1) | exact HB.out)) (Nat.le_refl _)) A24.out).mono ?_
                                  rintro e w47 ⟨rfl, hb⟩
                                  refine ⟨_, rfl, ?_⟩
                                  have n0_ := Aside0.mk (below_step (by repeat (first | (with_reducible first | exact HB.out | apply below_alloc | apply pw_below_drewN | apply below_drew1) | exact HB.out)) hb)
                                  clear HB
                                  have HB := n0_
                                  clear n0_
                                  (try clear hb)
                                  (try clear hb2)
                                  (try clear hk)
                                  (try clear hi)
                                  refine hK.out _ _ trivial (fun hHeld => ?_)
                                  clear hK K
                                  refine norm_ (a' := ?_) ?_ ?_
                                  rotate_left
                                  · show Act.put _ (some 85) _ = _
                                    simp only [Act.put, List.setIfInBounds_toArray, List.set_cons_zero, List.set_cons_succ, i64_w, i32_w]
                                    rfl
                                  refine pure_ (i := 10) (N := some 75) (v := ?_) (a' := ?_) #[true, true, true, true, true, true, true, true, true, true, true, false, false, false, false] rfl rfl (any_of HT_.out (by kernel_rfl)) (fun _ _ _ h => h) (Or.inl ⟨by rfl, ?_⟩) ?_ ?_
                                  rotate_left
                                  · intro w'
                                    go_simp
                                    with_reducible rfl
                                  rotate_left
                                  · simp only [Act.put, List.setIfInBounds_toArray, List.set_cons_zero, List.set_cons_succ, i64_w, i32_w]
                                    rfl
                                  refine pure_ (i := 11) (N := some 86) (v := ?_) (a' := ?_) #[true, true, true, true, true, true, true, true, true, true, true, true, false, false, false] rfl rfl (any_of HT_.out (by kernel_rfl)) (fun _ _ _ h => h) (Or.inl ⟨by rfl, ?_⟩) ?_ ?_
                                  rotate_left
                                  · intro w'
                                    go_simp
                                    with_reducible rfl
                                  rotate_left
                                  · simp only [Act.put, List.setIfInBounds_toArray, List.set_cons_zero, List.set_cons_succ, i64_w, i32_w]
                                    rfl
                                  refine pure_ (i := 12) (N := some 87) (v := ?_) (a' := ?_) #[true, true, true, true, true, true, true, true, true, true, true, true, true, false, false] rfl rfl (any_of HT_.out (by kernel_rfl)) (fun _ _ _ h => h) (Or.inl ⟨by rfl, ?_⟩) ?_ ?_
                                  rotate_left
                                  · intro w'
                                    go_simp
                                    with_reducible rfl
                                  rotate_left
                                  · simp only [Act.put, List.setIfInBounds_toArray, List.set_cons_zero, List.set_cons_succ, i64_w, i32_w]
                                    rfl
                                  refine pure_ (i := 13) (N := some 17) (v := ?_) (a' := ?_) #[true, true, true, true, true, true, true, true, true, true, true, true, true, true, false] rfl rfl (any_of HT_.out (by kernel_rfl)) (fun _ _ _ h => h) (Or.inl ⟨by rfl, ?_⟩) ?_ ?_
                                  rotate_left
                                  · intro w'
                                    go_simp
                                    with_reducible rfl
                                  rotate_left
                                  · simp only [Act.put, List.setIfInBounds_toArray, List.set_cons_zero, List.set_cons_succ, i64_w, i32_w]
                                    rfl
                                  refine pure_ (i := 14) (N := some 18) (v := ?_) (a' := ?_) #[true, true, true, true, true, true, true, true, true, true, true, true, true, true, true] rfl rfl (any_of HT_.out (by kernel_rfl)) (fun _ _ _ h => h) (Or.inl ⟨by rfl, ?_⟩) ?_ ?_
                                  rotate_left
                                  · intro w'
                                    go_simp
                                    with_reducible rfl
                                  rotate_left
                                  · simp only [Act.put, List.setIfInBounds_toArray, List.set_cons_zero, List.set_cons_succ, i64_w, i32_w]
                                    rfl
                                  refine done_ (done_of HT_.out (by kernel_rfl)) ?_
                                  try go_wp2
                                  go_ret
                                  exact ⟨by first | rfl | (simp [errW_none, errW_some] <;> rfl) | (simp only [← hji18]; first | rfl | (simp [errW_none, errW_some] <;> rfl)) | (simp [*, errW_none, errW_some] <;> rfl), by repeat (first | (with_reducible first | exact HB.out | apply below_alloc | apply pw_below_drewN | apply below_drew1) | exact HB.out)⟩
                            · rw [if_neg c23] at H
                              exact absurd H (by simp)
                          · rw [if_neg c22] at H
                            exact absurd H (by simp)
                        · rw [if_neg c21] at H
                          exact absurd H (by simp)
                      · rw [if_neg c20] at H
                        exact absurd H (by simp)
                    · rw [if_neg c19] at H
                      exact absurd H (by simp)
                  · rw [if_neg c16] at H
                    exact absurd H (by simp)
                · replace c15 := Bool.eq_false_iff.mpr c15
                  subst c15
                  have H1 : ((spec_BytesOf.f kj8 ((⟨#[98]⟩ : ByteArray) ++ t167)).bind fun bt177 => (some (!bt177.2))) = some r := by rw [if_neg (show ¬ (false = true) by decide)] at H; exact H
                  clear H
                  have H := H1
                  clear H1
                  replace H := Option.bind_eq_some_iff.mp H
                  obtain ⟨⟨t177, t178⟩, A480, H⟩ := H
                  replace H : (some (!t178)) = some r := H
                  have A48 := Aside0.mk A480
                  clear A480
                  obtain rfl := Option.some.inj H
                  go_wp2_with (first | ((with_reducible refine gate_callee (f := 7) rfl ?_); refine goesL_ (some 56) rfl rfl Tryd.func7 (by kernel_rfl) rfl #[.string ((⟨#[98]⟩ : ByteArray) ++ t167)] rfl (by (try simp only [List.map_toArray, List.map_cons, List.map_nil]); first | done | rfl | (simp only [List.length_drop, List.length_take]; rfl)) ?_; (with_reducible refine (impl_VtBytes.calls kj8 ((⟨#[98]⟩ : ByteArray) ++ t167) t171 false _ (Given.Glob.below HG.out (by repeat (first | (with_reducible first | exact HB.out | apply below_alloc | apply pw_below_drewN | apply below_drew1) | exact HB.out)) (Nat.le_refl _)) A14.out).mono ?_); rintro e w49 ⟨rfl, hb⟩; refine ⟨_, rfl, ?_⟩; have n0_ := Aside0.mk (below_step (by repeat (first | (with_reducible first | exact HB.out | apply below_alloc | apply pw_below_drewN | apply below_drew1) | exact HB.out)) hb); clear HB; have HB := n0_; clear n0_; (try clear hb); (try clear hb2); (try clear hk); (try clear hi)) | ((with_reducible refine gate_callee (f := 8) rfl ?_); refine goesL_ (some 64) rfl rfl Tryd.func8 (by kernel_rfl) rfl #[.string ((⟨#[98]⟩ : ByteArray) ++ t167)] rfl (by (try simp only [List.map_toArray, List.map_cons, List.map_nil]); first | done | rfl | (simp only [List.length_drop, List.length_take]; rfl)) ?_; (with_reducible refine (spec_BytesOf.calls kj8 ((⟨#[98]⟩ : ByteArray) ++ t167) t177 t178 _ A48.out).mono ?_); rintro e w50 ⟨rfl, hb⟩; refine ⟨_, rfl, ?_⟩; have n0_ := Aside0.mk (below_step (by repeat (first | (with_reducible first | exact HB.out | apply below_alloc | apply pw_below_drewN | apply below_drew1) | exact HB.out)) hb); clear HB; have HB := n0_; clear n0_; (try clear hb); (try clear hb2); (try clear hk); (try clear hi)))
                  go_ret
                  exact ⟨by first | rfl | (simp [errW_none, errW_some] <;> rfl) | (simp [*, errW_none, errW_some] <;> rfl), by repeat (first | (with_reducible first | exact HB.out | apply below_alloc | apply pw_below_drewN | apply below_drew1) | exact HB.out)⟩
              · rw [if_neg c13] at H
                exact absurd H (by simp)

/-- THE ONE PURE STATEMENT of laws_FnVtBytesJoin: yours. -/
def laws_FnVtBytesJoin.Pure : Prop := ∀ (a0 : ByteArray) (a1 : ByteArray) (a2 : Bool), a0.size ≤ 140737488351232 → a1.size ≤ 140737488351232 → ∃ k, laws_FnVtBytesJoin.f k a0 a1 a2 = some true
theorem laws_FnVtBytesJoin.walk (P : laws_FnVtBytesJoin.Pure) (a0 : ByteArray) (a1 : ByteArray) (a2 : Bool) (w : World) (hG : Given.Glob w) (w0 : a0.size ≤ 140737488351232) (w1 : a1.size ≤ 140737488351232) :
    Calls Tryd.prog 3 #[.string a0, .string a1, .bool a2] w fun e w' => e = .returned (.bool true) ∧ Below w.heap.size w w' := by
  obtain ⟨k, h⟩ := P a0 a1 a2 w0 w1
  refine (laws_FnVtBytesJoin.calls k a0 a1 a2 true w hG h).mono ?_
  rintro e w' ⟨rfl, hd⟩
  exact ⟨rfl, hd⟩

end Go.Proofs.YtgljkbhjbefikaaDoor.PVb

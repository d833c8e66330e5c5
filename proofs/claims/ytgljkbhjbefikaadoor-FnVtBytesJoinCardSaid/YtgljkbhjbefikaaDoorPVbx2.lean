-- Written by a program of this session (wip/tools/myprint.py) for this claim.
import Derived.Test.YtgljkbhjbefikaaDoorPVbx0
import Derived.Test.YtgljkbhjbefikaaDoorPVbx1
namespace Go.Proofs.YtgljkbhjbefikaaDoor.PVb
open Go.RowKit Go.Proofs.YtgljkbhjbefikaaDoorW.PrintWords Go.Proofs.YtgljkbhjbefikaaDoorW.PrintLast Go.Proofs.YtgljkbhjbefikaaDoorW.PrintMore
attribute [local go_sem] max2_int min2_int max_two min_two max_three min_three max_four min_four   -- for this text's walks alone
set_option linter.unusedVariables false
set_option linter.unusedSimpArgs false

/-! ### dbus_DoorBytes: function 14 -/
def dbus_DoorBytes.f (k : Nat) (a0 : ByteArray) : Option (ByteArray × Option Int) := (dbus_varParseByteString.f k a0).bind fun bt145 => (some (strOfNums bt145.1, bt145.2))
theorem dbus_DoorBytes.mono : ∀ a0 k, LeO (dbus_DoorBytes.f k a0) (dbus_DoorBytes.f (k + 1) a0) := by
  intro a0 k
  unfold dbus_DoorBytes.f
  repeat' first
      | (with_reducible exact dbus_varParseByteString.mono _ _)
      | (with_reducible exact LeO.refl _)
      | (with_reducible exact LeO.none _)
      | (with_reducible refine LeO.ite ?_ ?_)
      | (with_reducible refine LeO.bind ?_ (fun _ => ?_))
      | exact dbus_varParseByteString.mono _ _
      | exact LeO.none _
      | refine LeO.ite ?_ ?_
      | refine LeO.bind ?_ (fun _ => ?_)
set_option maxHeartbeats 8000000 in
set_option maxRecDepth 100000 in
theorem dbus_DoorBytes.calls (k : Nat) (a0 : ByteArray) (r1 : ByteArray) (r2 : Option Int) (w : World) (hG : Given.Glob w) (h : dbus_DoorBytes.f k a0 = some (r1, r2)) :
    Calls Tryd.prog 14 #[.string a0] w fun e w' => ∃ ev_ : Value, e = .returned (.tuple #[.string r1, ev_]) ∧ Given.IsErr ev_ r2 ∧ Below w.heap.size w w' := by
  have HG := Aside0.mk hG
  clear hG
  have HB := Aside0.mk (Below.refl w.heap.size w)
  have H : ((dbus_varParseByteString.f k a0).bind fun bt145 => (some (strOfNums bt145.1, bt145.2))) = some (r1, r2) := h
  clear h
  replace H := Option.bind_eq_some_iff.mp H
  obtain ⟨⟨t145, t146⟩, A20, H⟩ := H
  replace H : (some (strOfNums t145, t146)) = some (r1, r2) := H
  have A2 := Aside0.mk A20
  clear A20
  simp only [Option.some.injEq, Prod.mk.injEq] at H
  obtain ⟨rfl, rfl⟩ := H
  go_enter Tryd.func14, Tryd.ntmps14
  go_wp2_with (first | ((with_reducible refine gate_callee (f := 25) rfl ?_); refine goesL_ (some 8) rfl rfl Tryd.func25 (by kernel_rfl) rfl #[.string a0] rfl (by (try simp only [List.map_toArray, List.map_cons, List.map_nil]); first | done | rfl | (simp only [List.length_drop, List.length_take]; rfl)) ?_; (with_reducible refine (dbus_varParseByteString.calls k a0 t145 t146 _ (Given.Glob.below HG.out (by repeat (first | (with_reducible first | exact HB.out | apply below_alloc | apply pw_below_drewN | apply below_drew1) | exact HB.out)) (Nat.le_refl _)) A2.out).mono ?_); rintro e w3 ⟨v147, ev_, rfl, ie_, ho0, hb⟩; have IE_ := Aside0.mk ie_; clear ie_; refine ⟨_, rfl, ?_⟩; have n0_ := Aside0.mk (Kd.R_lower ho0 (below_size (by repeat (first | (with_reducible first | exact HB.out | apply below_alloc | apply pw_below_drewN | apply below_drew1) | exact HB.out)))); have n1_ := Aside0.mk (below_step (by repeat (first | (with_reducible first | exact HB.out | apply below_alloc | apply pw_below_drewN | apply below_drew1) | exact HB.out)) hb); clear HB; have HO148 := n0_; have HB := n1_; clear n0_ n1_; (try clear hb); (try clear hb2); (try clear hk); (try clear hi); (try clear ho0); (try simp only [errW_none, errW_some]); have hcv4 := own_string (P := Tryd.prog) Tryd.underlying26 Tryd.underlying5 Tryd.underlying9 (Kd.own_of_R HO148.out)))
  go_ret2
  exact ⟨_, by first | rfl | (simp [errW_none, errW_some] <;> rfl) | (simp [*, errW_none, errW_some] <;> rfl), IE_.out, by repeat (first | (with_reducible first | exact HB.out | apply below_alloc | apply pw_below_drewN | apply below_drew1) | exact HB.out)⟩

/-! ### impl_VtBytes: function 7 -/
def impl_VtBytes.f (k : Nat) (a0 : ByteArray) : Option (ByteArray × Bool) := if (a0.size : Int) < 3 then (some ((⟨#[]⟩ : ByteArray), false)) else ((dbus_DoorBytes.f k a0).bind fun bt149 => (if bt149.2.isNone = true then (some (bt149.1, true)) else (some (bt149.1, false))))
theorem impl_VtBytes.mono : ∀ a0 k, LeO (impl_VtBytes.f k a0) (impl_VtBytes.f (k + 1) a0) := by
  intro a0 k
  unfold impl_VtBytes.f
  repeat' first
      | (with_reducible exact dbus_DoorBytes.mono _ _)
      | (with_reducible exact LeO.refl _)
      | (with_reducible exact LeO.none _)
      | (with_reducible refine LeO.ite ?_ ?_)
      | (with_reducible refine LeO.bind ?_ (fun _ => ?_))
      | exact dbus_DoorBytes.mono _ _
      | exact LeO.none _
      | refine LeO.ite ?_ ?_
      | refine LeO.bind ?_ (fun _ => ?_)
set_option maxHeartbeats 8000000 in
set_option maxRecDepth 100000 in
theorem impl_VtBytes.calls (k : Nat) (a0 : ByteArray) (r1 : ByteArray) (r2 : Bool) (w : World) (hG : Given.Glob w) (h : impl_VtBytes.f k a0 = some (r1, r2)) :
    Calls Tryd.prog 7 #[.string a0] w fun e w' => e = .returned (.tuple #[.string r1, .bool r2]) ∧ Below w.heap.size w w' := by
  have HG := Aside0.mk hG
  clear hG
  have hu37 := Tryd.underlying37
  have HB := Aside0.mk (Below.refl w.heap.size w)
  have H : (if (a0.size : Int) < 3 then (some ((⟨#[]⟩ : ByteArray), false)) else ((dbus_DoorBytes.f k a0).bind fun bt149 => (if bt149.2.isNone = true then (some (bt149.1, true)) else (some (bt149.1, false))))) = some (r1, r2) := h
  clear h
  by_cases c2 : (a0.size : Int) < 3
  · rw [if_pos c2] at H
    have c2b0 : decide ((a0.size : Int) < 3) = true := decide_eq_true c2
    have c2b1 : decide (a0.size < 3) = true := decide_eq_true (by omega)
    clear c2
    simp only [Option.some.injEq, Prod.mk.injEq] at H
    obtain ⟨rfl, rfl⟩ := H
    go_enter Tryd.func7, Tryd.ntmps7
    go_wp2
    repeat (go_quiet (fail); try go_wp2)
    go_ret2
    exact ⟨by first | rfl | (simp [errW_none, errW_some] <;> rfl) | (simp [*, errW_none, errW_some] <;> rfl), by repeat (first | (with_reducible first | exact HB.out | apply below_alloc | apply pw_below_drewN | apply below_drew1) | exact HB.out)⟩
  · rw [if_neg c2] at H
    have c2b0 : decide ((a0.size : Int) < 3) = false := decide_eq_false c2
    have c2b1 : decide (a0.size < 3) = false := decide_eq_false (by omega)
    clear c2
    replace H := Option.bind_eq_some_iff.mp H
    obtain ⟨⟨t149, t150⟩, A30, H⟩ := H
    replace H : (if t150.isNone = true then (some (t149, true)) else (some (t149, false))) = some (r1, r2) := H
    have A3 := Aside0.mk A30
    clear A30
    rcases t150 with _ | q151
    · have H1 : (some (t149, true)) = some (r1, r2) := by rw [if_pos (show (none : Option Int).isNone = true by rfl)] at H; exact H
      clear H
      have H := H1
      clear H1
      try simp only [errW_none, errW_some]
      simp only [Option.some.injEq, Prod.mk.injEq] at H
      obtain ⟨rfl, rfl⟩ := H
      go_enter Tryd.func7, Tryd.ntmps7
      go_wp2_with (first | (go_at_call 14; (with_reducible refine (dbus_DoorBytes.calls k a0 t149 none _ (Given.Glob.below HG.out (by repeat (first | (with_reducible first | exact HB.out | apply below_alloc | apply pw_below_drewN | apply below_drew1) | exact HB.out)) (Nat.le_refl _)) A3.out).mono ?_); rintro e w4 ⟨ev_, rfl, ie_, hb⟩; obtain rfl : ev_ = .nilIface := ie_; have n0_ := Aside0.mk (below_step (by repeat (first | (with_reducible first | exact HB.out | apply below_alloc | apply pw_below_drewN | apply below_drew1) | exact HB.out)) hb); clear HB; have HB := n0_; clear n0_; (try clear hb); (try clear hb2); (try clear hk); (try clear hi); (try simp only [errW_none, errW_some])))
      repeat (go_quiet (first | (go_at_call 14; (with_reducible refine (dbus_DoorBytes.calls k a0 t149 none _ (Given.Glob.below HG.out (by repeat (first | (with_reducible first | exact HB.out | apply below_alloc | apply pw_below_drewN | apply below_drew1) | exact HB.out)) (Nat.le_refl _)) A3.out).mono ?_); rintro e w4 ⟨ev_, rfl, ie_, hb⟩; obtain rfl : ev_ = .nilIface := ie_; have n0_ := Aside0.mk (below_step (by repeat (first | (with_reducible first | exact HB.out | apply below_alloc | apply pw_below_drewN | apply below_drew1) | exact HB.out)) hb); clear HB; have HB := n0_; clear n0_; (try clear hb); (try clear hb2); (try clear hk); (try clear hi); (try simp only [errW_none, errW_some]))); try go_wp2_with (first | (go_at_call 14; (with_reducible refine (dbus_DoorBytes.calls k a0 t149 none _ (Given.Glob.below HG.out (by repeat (first | (with_reducible first | exact HB.out | apply below_alloc | apply pw_below_drewN | apply below_drew1) | exact HB.out)) (Nat.le_refl _)) A3.out).mono ?_); rintro e w4 ⟨ev_, rfl, ie_, hb⟩; obtain rfl : ev_ = .nilIface := ie_; have n0_ := Aside0.mk (below_step (by repeat (first | (with_reducible first | exact HB.out | apply below_alloc | apply pw_below_drewN | apply below_drew1) | exact HB.out)) hb); clear HB; have HB := n0_; clear n0_; (try clear hb); (try clear hb2); (try clear hk); (try clear hi); (try simp only [errW_none, errW_some]))))
      go_ret2
      exact ⟨by first | rfl | (simp [errW_none, errW_some] <;> rfl) | (simp [*, errW_none, errW_some] <;> rfl), by repeat (first | (with_reducible first | exact HB.out | apply below_alloc | apply pw_below_drewN | apply below_drew1) | exact HB.out)⟩
    · have H1 : (some (t149, false)) = some (r1, r2) := by rw [if_neg (show ¬ (some q151).isNone = true by simp)] at H; exact H
      clear H
      have H := H1
      clear H1
      try simp only [errW_none, errW_some]
      simp only [Option.some.injEq, Prod.mk.injEq] at H
      obtain ⟨rfl, rfl⟩ := H
      go_enter Tryd.func7, Tryd.ntmps7
      go_wp2_with (first | (go_at_call 14; (with_reducible refine (dbus_DoorBytes.calls k a0 t149 (some q151) _ (Given.Glob.below HG.out (by repeat (first | (with_reducible first | exact HB.out | apply below_alloc | apply pw_below_drewN | apply below_drew1) | exact HB.out)) (Nat.le_refl _)) A3.out).mono ?_); rintro e w5 ⟨ev_, rfl, ⟨et_, eu_, rfl⟩, hb⟩; have n0_ := Aside0.mk (below_step (by repeat (first | (with_reducible first | exact HB.out | apply below_alloc | apply pw_below_drewN | apply below_drew1) | exact HB.out)) hb); clear HB; have HB := n0_; clear n0_; (try clear hb); (try clear hb2); (try clear hk); (try clear hi); (try simp only [errW_none, errW_some])))
      repeat (go_quiet (first | (go_at_call 14; (with_reducible refine (dbus_DoorBytes.calls k a0 t149 (some q151) _ (Given.Glob.below HG.out (by repeat (first | (with_reducible first | exact HB.out | apply below_alloc | apply pw_below_drewN | apply below_drew1) | exact HB.out)) (Nat.le_refl _)) A3.out).mono ?_); rintro e w5 ⟨ev_, rfl, ⟨et_, eu_, rfl⟩, hb⟩; have n0_ := Aside0.mk (below_step (by repeat (first | (with_reducible first | exact HB.out | apply below_alloc | apply pw_below_drewN | apply below_drew1) | exact HB.out)) hb); clear HB; have HB := n0_; clear n0_; (try clear hb); (try clear hb2); (try clear hk); (try clear hi); (try simp only [errW_none, errW_some]))); try go_wp2_with (first | (go_at_call 14; (with_reducible refine (dbus_DoorBytes.calls k a0 t149 (some q151) _ (Given.Glob.below HG.out (by repeat (first | (with_reducible first | exact HB.out | apply below_alloc | apply pw_below_drewN | apply below_drew1) | exact HB.out)) (Nat.le_refl _)) A3.out).mono ?_); rintro e w5 ⟨ev_, rfl, ⟨et_, eu_, rfl⟩, hb⟩; have n0_ := Aside0.mk (below_step (by repeat (first | (with_reducible first | exact HB.out | apply below_alloc | apply pw_below_drewN | apply below_drew1) | exact HB.out)) hb); clear HB; have HB := n0_; clear n0_; (try clear hb); (try clear hb2); (try clear hk); (try clear hi); (try simp only [errW_none, errW_some]))))
      go_ret2
      exact ⟨by first | rfl | (simp [errW_none, errW_some] <;> rfl) | (simp [*, errW_none, errW_some] <;> rfl), by repeat (first | (with_reducible first | exact HB.out | apply below_alloc | apply pw_below_drewN | apply below_drew1) | exact HB.out)⟩

/-! ### spec_hexDigit: function 15 -/
def spec_hexDigit.j0 : Nat → Int → Bool → Option (Int × Bool)
  | 0, _, _ => none
  | k + 1, x0, x4 => if x4 = true then (some ((x0 - 48) % 256, true)) else (if (Go.bits .or .u8 x0 32) ≥ 97 then (if (Go.bits .or .u8 x0 32) ≤ 102 then (some (((((Go.bits .or .u8 x0 32) - 97) % 256) + 10) % 256, true)) else (some (0, false))) else (some (0, false)))
def spec_hexDigit.f (k : Nat) (a0 : Int) : Option (Int × Bool) := if a0 ≥ 48 then (spec_hexDigit.j0 k a0 (decide (a0 ≤ 57))) else (spec_hexDigit.j0 k a0 false)
theorem spec_hexDigit.mono_l : ∀ k, (∀ y0 y1, LeO (spec_hexDigit.j0 k y0 y1) (spec_hexDigit.j0 (k + 1) y0 y1))
  | 0 => fun _ _ r h => by simp [spec_hexDigit.j0] at h
  | k + 1 => by
    have ih0 := spec_hexDigit.mono_l k
    · intro y0 y1
      unfold spec_hexDigit.j0
      repeat' first
      | (with_reducible exact ih0 _ _)
      | (with_reducible exact LeO.refl _)
      | (with_reducible exact LeO.none _)
      | (with_reducible refine LeO.ite ?_ ?_)
      | (with_reducible refine LeO.bind ?_ (fun _ => ?_))
      | exact ih0 _ _
      | exact LeO.none _
      | refine LeO.ite ?_ ?_
      | refine LeO.bind ?_ (fun _ => ?_)
theorem spec_hexDigit.mono : ∀ a0 k, LeO (spec_hexDigit.f k a0) (spec_hexDigit.f (k + 1) a0) := by
  intro a0 k
  have ih0 := spec_hexDigit.mono_l k
  unfold spec_hexDigit.f
  repeat' first
      | (with_reducible exact ih0 _ _)
      | (with_reducible exact LeO.refl _)
      | (with_reducible exact LeO.none _)
      | (with_reducible refine LeO.ite ?_ ?_)
      | (with_reducible refine LeO.bind ?_ (fun _ => ?_))
      | exact ih0 _ _
      | exact LeO.none _
      | refine LeO.ite ?_ ?_
      | refine LeO.bind ?_ (fun _ => ?_)
set_option maxHeartbeats 8000000 in
set_option maxRecDepth 100000 in
theorem spec_hexDigit.calls (k : Nat) (a0 : Int) (r1 : Int) (r2 : Bool) (w : World) (h : spec_hexDigit.f k a0 = some (r1, r2)) :
    Calls Tryd.prog 15 #[.int .u8 a0] w fun e w' => e = .returned (.tuple #[.int .u8 r1, .bool r2]) ∧ Drawn0 w w' := by
  have H : (if a0 ≥ 48 then (spec_hexDigit.j0 k a0 (decide (a0 ≤ 57))) else (spec_hexDigit.j0 k a0 false)) = some (r1, r2) := h
  clear h
  have HC2 := Aside0.mk H
  clear H
  go_enter Tryd.func15, Tryd.ntmps15
  go_upto_region 1 with (fail)
  go_cut [4] (fun v4 wc => ∃ (kq : Nat) (x4_1 : Bool), v4 = .bool x4_1 ∧ Aside0 (spec_hexDigit.j0 kq a0 x4_1 = some (r1, r2)) ∧ Aside0 (kq ≤ k) ∧ Drawn0 w wc)
  case first =>
    have H := HC2.out
    clear HC2
    by_cases c3 : a0 ≥ 48
    · rw [if_pos c3] at H
      have c3b0 : decide (48 ≤ a0) = true := decide_eq_true c3
      clear c3
      (first | rw [c3b0] | (simp only [i64_w, i32_w]; rw [c3b0]) | skip)
      have H' := Aside0.mk H
      clear H
      go_wp2
      go_meet
      case rel => exact ⟨_, (decide (a0 ≤ 57)), (by first | rfl | (simp; done) | (simp [*]; done)), H', ⟨by first | omega | exact Nat.le_refl _⟩, by repeat (first | exact Drawn0.refl _ | apply Drawn0.step)⟩
    · rw [if_neg c3] at H
      have c3b0 : decide (48 ≤ a0) = false := decide_eq_false c3
      clear c3
      (first | rw [c3b0] | (simp only [i64_w, i32_w]; rw [c3b0]) | skip)
      have H' := Aside0.mk H
      clear H
      go_wp2
      go_meet
      case rel => exact ⟨_, (false), (by first | rfl | (simp; done) | (simp [*]; done)), H', ⟨by first | omega | exact Nat.le_refl _⟩, by repeat (first | exact Drawn0.refl _ | apply Drawn0.step)⟩
  case rest =>
    clear HC2
    try clear c1
    try clear p2
    try clear c3
    try clear c3b0
    obtain ⟨kq, x4_1, rfl, HA, HJ1, ⟨mc1, rfl⟩⟩ := hcut
    cases kq with
    | zero => exact absurd HA.out (by simp [spec_hexDigit.j0])
    | succ kj1 =>
      have H := HA.out
      clear HA
      simp only [spec_hexDigit.j0] at H
      by_cases c4 : x4_1 = true
      · subst c4
        have H1 : (some ((a0 - 48) % 256, true)) = some (r1, r2) := by rw [if_pos rfl] at H; exact H
        clear H
        have H := H1
        clear H1
        simp only [Option.some.injEq, Prod.mk.injEq] at H
        obtain ⟨rfl, rfl⟩ := H
        go_wp2
        go_ret2
        exact ⟨by first | rfl | (simp; done) | (simp [*]; done), by repeat (first | exact Drawn0.refl _ | apply Drawn0.step)⟩
      · replace c4 := Bool.eq_false_iff.mpr c4
        subst c4
        have H1 : (if (Go.bits .or .u8 a0 32) ≥ 97 then (if (Go.bits .or .u8 a0 32) ≤ 102 then (some (((((Go.bits .or .u8 a0 32) - 97) % 256) + 10) % 256, true)) else (some (0, false))) else (some (0, false))) = some (r1, r2) := by rw [if_neg (show ¬ (false = true) by decide)] at H; exact H
        clear H
        have H := H1
        clear H1
        by_cases c5 : (Go.bits .or .u8 a0 32) ≥ 97
        · rw [if_pos c5] at H
          have c5b0 : decide (97 ≤ (Go.bits .or .u8 a0 32)) = true := decide_eq_true c5
          clear c5
          by_cases c6 : (Go.bits .or .u8 a0 32) ≤ 102
          · rw [if_pos c6] at H
            have c6b0 : decide ((Go.bits .or .u8 a0 32) ≤ 102) = true := decide_eq_true c6
            clear c6
            simp only [Option.some.injEq, Prod.mk.injEq] at H
            obtain ⟨rfl, rfl⟩ := H
            go_wp2
            go_ret2
            exact ⟨by first | rfl | (simp; done) | (simp [*]; done), by repeat (first | exact Drawn0.refl _ | apply Drawn0.step)⟩
          · rw [if_neg c6] at H
            have c6b0 : decide ((Go.bits .or .u8 a0 32) ≤ 102) = false := decide_eq_false c6
            clear c6
            simp only [Option.some.injEq, Prod.mk.injEq] at H
            obtain ⟨rfl, rfl⟩ := H
            go_wp2
            go_ret2
            exact ⟨by first | rfl | (simp; done) | (simp [*]; done), by repeat (first | exact Drawn0.refl _ | apply Drawn0.step)⟩
        · rw [if_neg c5] at H
          have c5b0 : decide (97 ≤ (Go.bits .or .u8 a0 32)) = false := decide_eq_false c5
          clear c5
          simp only [Option.some.injEq, Prod.mk.injEq] at H
          obtain ⟨rfl, rfl⟩ := H
          go_wp2
          go_ret2
          exact ⟨by first | rfl | (simp; done) | (simp [*]; done), by repeat (first | exact Drawn0.refl _ | apply Drawn0.step)⟩

/-! ### spec_escapedAs: function 16 -/
def spec_escapedAs.l0 : Nat → Int → Int → Option (Int)
  | 0, _, _ => none
  | k + 1, x0, x3 => if x3 < 6 then (if 0 ≤ x3 then (if x0 = (bt (⟨#[97, 98, 102, 110, 114, 116]⟩ : ByteArray) x3) then (some (bt (⟨#[7, 8, 12, 10, 13, 9]⟩ : ByteArray) x3)) else (spec_escapedAs.l0 k x0 (wrap64 (x3 + 1)))) else (none)) else (some x0)
def spec_escapedAs.f (k : Nat) (a0 : Int) : Option (Int) := spec_escapedAs.l0 k a0 0
theorem spec_escapedAs.mono_l : ∀ k, (∀ y0 y1, LeO (spec_escapedAs.l0 k y0 y1) (spec_escapedAs.l0 (k + 1) y0 y1))
  | 0 => fun _ _ r h => by simp [spec_escapedAs.l0] at h
  | k + 1 => by
    have ih0 := spec_escapedAs.mono_l k
    · intro y0 y1
      unfold spec_escapedAs.l0
      repeat' first
      | (with_reducible exact ih0 _ _)
      | (with_reducible exact LeO.refl _)
      | (with_reducible exact LeO.none _)
      | (with_reducible refine LeO.ite ?_ ?_)
      | (with_reducible refine LeO.bind ?_ (fun _ => ?_))
      | exact ih0 _ _
      | exact LeO.none _
      | refine LeO.ite ?_ ?_
      | refine LeO.bind ?_ (fun _ => ?_)
theorem spec_escapedAs.mono : ∀ a0 k, LeO (spec_escapedAs.f k a0) (spec_escapedAs.f (k + 1) a0) := by
  intro a0 k
  have ih0 := spec_escapedAs.mono_l k
  unfold spec_escapedAs.f
  repeat' first
      | (with_reducible exact ih0 _ _)
      | (with_reducible exact LeO.refl _)
      | (with_reducible exact LeO.none _)
      | (with_reducible refine LeO.ite ?_ ?_)
      | (with_reducible refine LeO.bind ?_ (fun _ => ?_))
      | exact ih0 _ _
      | exact LeO.none _
      | refine LeO.ite ?_ ?_
      | refine LeO.bind ?_ (fun _ => ?_)
set_option maxHeartbeats 8000000 in
set_option maxRecDepth 100000 in
theorem spec_escapedAs.calls (k : Nat) (a0 : Int) (r : Int) (w : World) (h : spec_escapedAs.f k a0 = some r) :
    Calls Tryd.prog 16 #[.int .u8 a0] w fun e w' => e = .returned (.int .u8 r) ∧ Drawn0 w w' := by
  have H : (spec_escapedAs.l0 k a0 0) = some r := h
  clear h
  have H' := Aside0.mk H
  clear H
  go_enter Tryd.func16, Tryd.ntmps16
  go_wp2
  go_loopg [3] k (fun kq v3 w' => ∃ (x3_1 : Int), v3 = .int .i64 x3_1 ∧ Aside0 (spec_escapedAs.l0 kq a0 x3_1 = some r) ∧ Aside0 (kq ≤ k) ∧ Drawn0 w w')
  case atStart => exact ⟨(0), (by first | rfl | (simp; done) | (simp [*]; done)), H', ⟨Nat.le_refl _⟩, by repeat (first | exact Drawn0.refl _ | apply Drawn0.step)⟩
  case round =>
    clear H'
    try clear c1
    obtain ⟨x3_1, rfl, HA, HK1, ⟨m1, rfl⟩⟩ := hrel
    cases gk with
    | zero => exact absurd HA.out (by simp [spec_escapedAs.l0])
    | succ k1 =>
      have H := HA.out
      clear HA
      simp only [spec_escapedAs.l0] at H
      by_cases c2 : x3_1 < 6
      · rw [if_pos c2] at H
        have c2b0 : decide (x3_1 < 6) = true := decide_eq_true c2
        clear c2
        by_cases c3 : 0 ≤ x3_1
        · rw [if_pos c3] at H
          have c3b0 : decide (0 ≤ x3_1) = true := decide_eq_true c3
          clear c3
          by_cases c5 : a0 = (bt (⟨#[97, 98, 102, 110, 114, 116]⟩ : ByteArray) x3_1)
          · rw [if_pos c5] at H
            have c5b0 : (a0 == (bt (⟨#[97, 98, 102, 110, 114, 116]⟩ : ByteArray) x3_1)) = true := beq_iff_eq.mpr c5
            have c5b1 : (a0 != (bt (⟨#[97, 98, 102, 110, 114, 116]⟩ : ByteArray) x3_1)) = false := bne_eq_false_iff_eq.mpr c5
            clear c5
            obtain rfl := Option.some.inj H
            have p4 : 0 ≤ (x3_1 : Int) := of_decide_eq_true (by first | (with_reducible assumption) | assumption)
            have q4 : x3_1 < (6 : Int) := of_decide_eq_true (by first | (with_reducible assumption) | assumption)
            have hx4 := bt_at (⟨#[97, 98, 102, 110, 114, 116]⟩ : ByteArray) x3_1
            replace p4 := eq_true p4
            replace q4 := eq_true q4
            have p6 : 0 ≤ (x3_1 : Int) := of_decide_eq_true (by first | (with_reducible assumption) | assumption)
            have q6 : x3_1 < (6 : Int) := of_decide_eq_true (by first | (with_reducible assumption) | assumption)
            have hx6 := bt_at (⟨#[7, 8, 12, 10, 13, 9]⟩ : ByteArray) x3_1
            replace p6 := eq_true p6
            replace q6 := eq_true q6
            go_wp2
            go_ret
            exact ⟨by first | rfl | (simp; done) | (simp [*]; done), by repeat (first | exact Drawn0.refl _ | apply Drawn0.step)⟩
          · rw [if_neg c5] at H
            have c5b0 : (a0 == (bt (⟨#[97, 98, 102, 110, 114, 116]⟩ : ByteArray) x3_1)) = false := beq_eq_false_iff_ne.mpr c5
            have c5b1 : (a0 != (bt (⟨#[97, 98, 102, 110, 114, 116]⟩ : ByteArray) x3_1)) = true := bne_iff_ne.mpr c5
            have H' := Aside0.mk H
            clear H
            have p4 : 0 ≤ (x3_1 : Int) := of_decide_eq_true (by first | (with_reducible assumption) | assumption)
            have q4 : x3_1 < (6 : Int) := of_decide_eq_true (by first | (with_reducible assumption) | assumption)
            have hx4 := bt_at (⟨#[97, 98, 102, 110, 114, 116]⟩ : ByteArray) x3_1
            replace p4 := eq_true p4
            replace q4 := eq_true q4
            go_wp2
            go_roundg k1
            case measure => have := HK1.out; omega
            case rel => exact ⟨(wrap64 (x3_1 + 1)), (by first | rfl | (simp; done) | (simp [*]; done)), H', ⟨by have := HK1.out; omega⟩, by repeat (first | exact Drawn0.refl _ | apply Drawn0.step)⟩
        · rw [if_neg c3] at H
          exact absurd H (by simp)
      · rw [if_neg c2] at H
        have c2b0 : decide (x3_1 < 6) = false := decide_eq_false c2
        clear c2
        obtain rfl := Option.some.inj H
        go_wp2
        go_ret
        exact ⟨by first | rfl | (simp; done) | (simp [*]; done), by repeat (first | exact Drawn0.refl _ | apply Drawn0.step)⟩

end Go.Proofs.YtgljkbhjbefikaaDoor.PVb

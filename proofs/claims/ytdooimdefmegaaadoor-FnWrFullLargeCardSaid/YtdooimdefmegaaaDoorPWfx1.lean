-- Written by a program of this session (wip/tools/myprint.py) for this claim.
import Derived.Test.YtdooimdefmegaaaDoorPWfx0
namespace Go.Proofs.YtdooimdefmegaaaDoor.PWf
open Go.RowKit Go.Proofs.YtdooimdefmegaaaDoorW.PrintWords Go.Proofs.YtdooimdefmegaaaDoorW.PrintLast Go.Proofs.YtdooimdefmegaaaDoorW.PrintMore
attribute [local go_sem] max2_int min2_int max_two min_two max_three min_three max_four min_four   -- for this text's walks alone
set_option linter.unusedVariables false
set_option linter.unusedSimpArgs false

/-! ### laws_zzFits5: function 9 -/
def laws_zzFits5.l0 : Nat → List ByteArray → Int → Int → Option (Bool)
  | 0, _, _, _ => none
  | k + 1, x8, x9, x10 => if x10 < x9 then (if 0 ≤ x10 then (if x10 < (x8.length : Int) then (if ((rdOf ByteArray.empty x8 x10).size : Int) > 2147483647 then (some false) else (laws_zzFits5.l0 k x8 x9 (wrap64 (x10 + 1)))) else (none)) else (none)) else (some true)
def laws_zzFits5.f (k : Nat) (l0 : List ByteArray) : Option (Bool) := if (l0.length : Int) > 2147483647 then (some false) else (laws_zzFits5.l0 k l0 (l0.length : Int) 0)
theorem laws_zzFits5.mono_l : ∀ k, (∀ y0 y1 y2, LeO (laws_zzFits5.l0 k y0 y1 y2) (laws_zzFits5.l0 (k + 1) y0 y1 y2))
  | 0 => fun _ _ _ r h => by simp [laws_zzFits5.l0] at h
  | k + 1 => by
    have ih0 := laws_zzFits5.mono_l k
    · intro y0 y1 y2
      unfold laws_zzFits5.l0
      repeat' first
      | (with_reducible exact ih0 _ _ _)
      | (with_reducible exact LeO.refl _)
      | (with_reducible exact LeO.none _)
      | (with_reducible refine LeO.ite ?_ ?_)
      | (with_reducible refine LeO.bind ?_ (fun _ => ?_))
      | exact ih0 _ _ _
      | exact LeO.none _
      | refine LeO.ite ?_ ?_
      | refine LeO.bind ?_ (fun _ => ?_)
theorem laws_zzFits5.mono : ∀ a0 k, LeO (laws_zzFits5.f k a0) (laws_zzFits5.f (k + 1) a0) := by
  intro a0 k
  have ih0 := laws_zzFits5.mono_l k
  unfold laws_zzFits5.f
  repeat' first
      | (with_reducible exact ih0 _ _ _)
      | (with_reducible exact LeO.refl _)
      | (with_reducible exact LeO.none _)
      | (with_reducible refine LeO.ite ?_ ?_)
      | (with_reducible refine LeO.bind ?_ (fun _ => ?_))
      | exact ih0 _ _ _
      | exact LeO.none _
      | refine LeO.ite ?_ ?_
      | refine LeO.bind ?_ (fun _ => ?_)
set_option maxHeartbeats 8000000 in
set_option maxRecDepth 100000 in
theorem laws_zzFits5.calls (k : Nat) (A0 : Option Addr) (c0 : Nat) (l0 : List ByteArray) (r : Bool) (w : World) (hr0 : Kd.C Kd.string w A0 l0.length l0) (hc0 : l0.length ≤ c0) (h : laws_zzFits5.f k l0 = some r) :
    Calls Tryd.prog 9 #[.slice A0 l0.length c0] w fun e w' => e = .returned (.bool r) ∧ Drawn0 w w' := by
  have HR0 := Aside0.mk hr0
  have HC0 := Aside0.mk hc0
  clear hr0 hc0
  have H : (if (l0.length : Int) > 2147483647 then (some false) else (laws_zzFits5.l0 k l0 (l0.length : Int) 0)) = some r := h
  clear h
  by_cases c2 : (l0.length : Int) > 2147483647
  · rw [if_pos c2] at H
    have c2b0 : decide (2147483647 < (l0.length : Int)) = true := decide_eq_true c2
    have c2b1 : decide (2147483647 < l0.length) = true := decide_eq_true (by omega)
    clear c2
    obtain rfl := Option.some.inj H
    go_enter Tryd.func9, Tryd.ntmps9
    go_wp2
    go_ret
    exact ⟨by first | rfl | (simp; done) | (simp [*]; done), by repeat (first | exact Drawn0.refl _ | apply Drawn0.step)⟩
  · rw [if_neg c2] at H
    have c2b0 : decide (2147483647 < (l0.length : Int)) = false := decide_eq_false c2
    have c2b1 : decide (2147483647 < l0.length) = false := decide_eq_false (by omega)
    clear c2
    have H' := Aside0.mk H
    clear H
    go_enter Tryd.func9, Tryd.ntmps9
    go_wp2
    go_loopg [10] k (fun kq v10 w' => ∃ (x10_1 : Int), v10 = .int .i64 x10_1 ∧ Aside0 (laws_zzFits5.l0 kq l0 (l0.length : Int) x10_1 = some r) ∧ Aside0 (kq ≤ k) ∧ Drawn0 w w')
    case atStart => exact ⟨(0), (by first | rfl | (simp; done) | (simp [*]; done)), H', ⟨Nat.le_refl _⟩, by repeat (first | exact Drawn0.refl _ | apply Drawn0.step)⟩
    case round =>
      clear H'
      try clear c2
      try clear c2b0
      try clear c2b1
      try clear p2
      obtain ⟨x10_1, rfl, HA, HK1, ⟨m1, rfl⟩⟩ := hrel
      cases gk with
      | zero => exact absurd HA.out (by simp [laws_zzFits5.l0])
      | succ k1 =>
        have H := HA.out
        clear HA
        simp only [laws_zzFits5.l0] at H
        by_cases c3 : x10_1 < (l0.length : Int)
        · rw [if_pos c3] at H
          have c3b0 : decide (x10_1 < (l0.length : Int)) = true := decide_eq_true c3
          clear c3
          by_cases c4 : 0 ≤ x10_1
          · rw [if_pos c4] at H
            have c4b0 : decide (0 ≤ x10_1) = true := decide_eq_true c4
            clear c4
            by_cases c5 : x10_1 < (l0.length : Int)
            · rw [if_pos c5] at H
              have c5b0 : decide (x10_1 < (l0.length : Int)) = true := decide_eq_true c5
              clear c5
              by_cases c6 : ((rdOf ByteArray.empty l0 x10_1).size : Int) > 2147483647
              · rw [if_pos c6] at H
                have c6b0 : decide (2147483647 < ((rdOf ByteArray.empty l0 x10_1).size : Int)) = true := decide_eq_true c6
                have c6b1 : decide (2147483647 < (rdOf ByteArray.empty l0 x10_1).size) = true := decide_eq_true (by omega)
                clear c6
                obtain rfl := Option.some.inj H
                have p101 : 0 ≤ (x10_1 : Int) := of_decide_eq_true (by first | (with_reducible assumption) | assumption)
                have q101 : x10_1 < (l0.length : Int) := of_decide_eq_true (by first | (with_reducible assumption) | assumption)
                obtain ⟨ad101, e101, hx101_0⟩ := Kd.at_string HR0.out x10_1 p101 q101
                cases e101
                replace p101 := eq_true p101
                replace q101 := eq_true q101
                go_wp2
                go_ret
                exact ⟨by first | rfl | (simp; done) | (simp [*]; done), by repeat (first | exact Drawn0.refl _ | apply Drawn0.step)⟩
              · rw [if_neg c6] at H
                have c6b0 : decide (2147483647 < ((rdOf ByteArray.empty l0 x10_1).size : Int)) = false := decide_eq_false c6
                have c6b1 : decide (2147483647 < (rdOf ByteArray.empty l0 x10_1).size) = false := decide_eq_false (by omega)
                clear c6
                have H' := Aside0.mk H
                clear H
                have p101 : 0 ≤ (x10_1 : Int) := of_decide_eq_true (by first | (with_reducible assumption) | assumption)
                have q101 : x10_1 < (l0.length : Int) := of_decide_eq_true (by first | (with_reducible assumption) | assumption)
                obtain ⟨ad101, e101, hx101_0⟩ := Kd.at_string HR0.out x10_1 p101 q101
                cases e101
                replace p101 := eq_true p101
                replace q101 := eq_true q101
                go_wp2
                go_roundg k1
                case measure => have := HK1.out; omega
                case rel => exact ⟨(wrap64 (x10_1 + 1)), (by first | rfl | (simp; done) | (simp [*]; done)), H', ⟨by have := HK1.out; omega⟩, by repeat (first | exact Drawn0.refl _ | apply Drawn0.step)⟩
            · rw [if_neg c5] at H
              exact absurd H (by simp)
          · rw [if_neg c4] at H
            exact absurd H (by simp)
        · rw [if_neg c3] at H
          have c3b0 : decide (x10_1 < (l0.length : Int)) = false := decide_eq_false c3
          clear c3
          obtain rfl := Option.some.inj H
          go_wp2
          go_ret
          exact ⟨by first | rfl | (simp; done) | (simp [*]; done), by repeat (first | exact Drawn0.refl _ | apply Drawn0.step)⟩

/-! ### laws_FnWrFullPieces: function 4 -/
def laws_FnWrFullPieces.l0 : Nat → List ByteArray → Int → Int → Int → ByteArray → Int → Option (Bool)
  | 0, _, _, _, _, _, _ => none
  | k + 1, x0, x1, x2, x3, x9, x10 => if x10 < (x0.length : Int) then (if 0 ≤ x10 then (if ((rdOf ByteArray.empty x0 x10).size : Int) > 1024 then (some true) else (if x9.size + (rdOf ByteArray.empty x0 x10).size ≤ 9223372036854775807 then (laws_FnWrFullPieces.l0 k x0 x1 x2 x3 (x9 ++ (rdOf ByteArray.empty x0 x10)) (wrap64 (x10 + 1))) else (none))) else (none)) else ((Given.WrFull.f x0 (wrap64 (x1)) (wrap64 (x3))).bind fun bt105 => ((Given.WrFull.f (([x9] : List ByteArray)) (wrap64 (x2)) (wrap64 (x3))).bind fun bt110 => ((Given.WrFull.f (([(⟨#[97, 98]⟩ : ByteArray), (⟨#[99]⟩ : ByteArray)] : List ByteArray)) 1 3).bind fun bt115 => (if (bt105.2 == bt110.2) = true then (if bt105.2 = true then (if bt105.1.toList = bt110.1.toList then (some bt115.2) else (some false)) else (some bt115.2)) else (some false)))))
def laws_FnWrFullPieces.f (k : Nat) (l0 : List ByteArray) (a1 : Int) (a2 : Int) (a3 : Int) : Option (Bool) := (laws_zzFits5.f k l0).bind fun t102 => (if t102 = true then (if (l0.length : Int) > 100 then (some true) else (laws_FnWrFullPieces.l0 k l0 a1 a2 a3 (⟨#[]⟩ : ByteArray) 0)) else (some true))
theorem laws_FnWrFullPieces.mono_l : ∀ k, (∀ y0 y1 y2 y3 y4 y5, LeO (laws_FnWrFullPieces.l0 k y0 y1 y2 y3 y4 y5) (laws_FnWrFullPieces.l0 (k + 1) y0 y1 y2 y3 y4 y5))
  | 0 => fun _ _ _ _ _ _ r h => by simp [laws_FnWrFullPieces.l0] at h
  | k + 1 => by
    have ih0 := laws_FnWrFullPieces.mono_l k
    · intro y0 y1 y2 y3 y4 y5
      unfold laws_FnWrFullPieces.l0
      repeat' first
      | (with_reducible exact ih0 _ _ _ _ _ _)
      | (with_reducible exact laws_zzFits5.mono _ _)
      | (with_reducible exact LeO.refl _)
      | (with_reducible exact LeO.none _)
      | (with_reducible refine LeO.ite ?_ ?_)
      | (with_reducible refine LeO.bind ?_ (fun _ => ?_))
      | exact ih0 _ _ _ _ _ _
      | exact laws_zzFits5.mono _ _
      | exact LeO.none _
      | refine LeO.ite ?_ ?_
      | refine LeO.bind ?_ (fun _ => ?_)
theorem laws_FnWrFullPieces.mono : ∀ a0 a1 a2 a3 k, LeO (laws_FnWrFullPieces.f k a0 a1 a2 a3) (laws_FnWrFullPieces.f (k + 1) a0 a1 a2 a3) := by
  intro a0 a1 a2 a3 k
  have ih0 := laws_FnWrFullPieces.mono_l k
  unfold laws_FnWrFullPieces.f
  repeat' first
      | (with_reducible exact ih0 _ _ _ _ _ _)
      | (with_reducible exact laws_zzFits5.mono _ _)
      | (with_reducible exact LeO.refl _)
      | (with_reducible exact LeO.none _)
      | (with_reducible refine LeO.ite ?_ ?_)
      | (with_reducible refine LeO.bind ?_ (fun _ => ?_))
      | exact ih0 _ _ _ _ _ _
      | exact laws_zzFits5.mono _ _
      | exact LeO.none _
      | refine LeO.ite ?_ ?_
      | refine LeO.bind ?_ (fun _ => ?_)
set_option maxHeartbeats 8000000 in
set_option maxRecDepth 100000 in
theorem laws_FnWrFullPieces.calls (k : Nat) (A0 : Option Addr) (c0 : Nat) (l0 : List ByteArray) (a1 : Int) (a2 : Int) (a3 : Int) (r : Bool) (w : World) (hG : Given.Glob w) (hr0 : Kd.C Kd.string w A0 l0.length l0) (hc0 : l0.length ≤ c0) (h : laws_FnWrFullPieces.f k l0 a1 a2 a3 = some r) :
    Calls Tryd.prog 4 #[.slice A0 l0.length c0, .int .u16 a1, .int .u16 a2, .int .u16 a3] w fun e w' => e = .returned (.bool r) ∧ Below w.heap.size w w' := by
  have HG := Aside0.mk hG
  clear hG
  have HR0 := Aside0.mk hr0
  have HC0 := Aside0.mk hc0
  clear hr0 hc0
  have HB := Aside0.mk (Below.refl w.heap.size w)
  have H : ((laws_zzFits5.f k l0).bind fun t102 => (if t102 = true then (if (l0.length : Int) > 100 then (some true) else (laws_FnWrFullPieces.l0 k l0 a1 a2 a3 (⟨#[]⟩ : ByteArray) 0)) else (some true))) = some r := h
  clear h
  replace H := Option.bind_eq_some_iff.mp H
  obtain ⟨t102, A50, H⟩ := H
  replace H : (if t102 = true then (if (l0.length : Int) > 100 then (some true) else (laws_FnWrFullPieces.l0 k l0 a1 a2 a3 (⟨#[]⟩ : ByteArray) 0)) else (some true)) = some r := H
  have A5 := Aside0.mk A50
  clear A50
  by_cases c6 : t102 = true
  · subst c6
    have H1 : (if (l0.length : Int) > 100 then (some true) else (laws_FnWrFullPieces.l0 k l0 a1 a2 a3 (⟨#[]⟩ : ByteArray) 0)) = some r := by rw [if_pos rfl] at H; exact H
    clear H
    have H := H1
    clear H1
    by_cases c7 : (l0.length : Int) > 100
    · rw [if_pos c7] at H
      have c7b0 : decide (100 < (l0.length : Int)) = true := decide_eq_true c7
      have c7b1 : decide (100 < l0.length) = true := decide_eq_true (by omega)
      clear c7
      obtain rfl := Option.some.inj H
      go_enter Tryd.func4, Tryd.ntmps4
      go_wp2_with (first | ((with_reducible refine gate_callee (f := 9) rfl ?_); refine goesL_ (some 18) rfl rfl Tryd.func9 (by kernel_rfl) rfl #[.slice A0 l0.length c0] rfl (by (try simp only [List.map_toArray, List.map_cons, List.map_nil]); first | done | rfl | (simp only [List.length_drop, List.length_take]; rfl)) ?_; (with_reducible refine (laws_zzFits5.calls k _ _ l0 true _ ?side1 ?side2 A5.out).mono ?_); (case side1 => repeat (first | exact HR0.out | (with_reducible refine Kd.C_alloc ?_ _) | (with_reducible refine Kd.C_drewN ?_ _) | (with_reducible refine Kd.C_drew ?_))); (case side2 => exact HC0.out); rintro e w' ⟨rfl, ⟨nd, rfl⟩⟩; refine ⟨_, rfl, ?_⟩))
      go_ret
      exact ⟨by first | rfl | (simp [errW_none, errW_some] <;> rfl) | (simp [*, errW_none, errW_some] <;> rfl), by repeat (first | (with_reducible first | exact HB.out | apply below_alloc | apply pw_below_drewN | apply below_drew1) | exact HB.out)⟩
    · rw [if_neg c7] at H
      have c7b0 : decide (100 < (l0.length : Int)) = false := decide_eq_false c7
      have c7b1 : decide (100 < l0.length) = false := decide_eq_false (by omega)
      clear c7
      have H' := Aside0.mk H
      clear H
      go_enter Tryd.func4, Tryd.ntmps4
      go_wp2_with (first | ((with_reducible refine gate_callee (f := 9) rfl ?_); refine goesL_ (some 18) rfl rfl Tryd.func9 (by kernel_rfl) rfl #[.slice A0 l0.length c0] rfl (by (try simp only [List.map_toArray, List.map_cons, List.map_nil]); first | done | rfl | (simp only [List.length_drop, List.length_take]; rfl)) ?_; (with_reducible refine (laws_zzFits5.calls k _ _ l0 true _ ?side1 ?side2 A5.out).mono ?_); (case side1 => repeat (first | exact HR0.out | (with_reducible refine Kd.C_alloc ?_ _) | (with_reducible refine Kd.C_drewN ?_ _) | (with_reducible refine Kd.C_drew ?_))); (case side2 => exact HC0.out); rintro e w' ⟨rfl, ⟨nd, rfl⟩⟩; refine ⟨_, rfl, ?_⟩))
      go_loopg [9, 10] k (fun kq v9 v10 w' => ∃ (x9_1 : ByteArray) (x10_1 : Int), v9 = .string x9_1 ∧ v10 = .int .i64 x10_1 ∧ Aside0 (laws_FnWrFullPieces.l0 kq l0 a1 a2 a3 x9_1 x10_1 = some r) ∧ Aside0 (kq ≤ k) ∧ Aside0 (Below w.heap.size w w'))
      case atStart => exact ⟨((⟨#[]⟩ : ByteArray)), (0), (by first | rfl | (simp; done) | (simp [*]; done)), (by first | rfl | (simp; done) | (simp [*]; done)), H', ⟨Nat.le_refl _⟩, ⟨by repeat (first | (with_reducible first | exact HB.out | apply below_alloc | apply pw_below_drewN | apply below_drew1) | exact HB.out)⟩⟩
      case round =>
        clear H'
        try clear p2
        try clear c4
        try clear c6
        try clear c7
        try clear c7b0
        try clear c7b1
        obtain ⟨x9_1, x10_1, rfl, rfl, HA, HK1, HB⟩ := hrel
        cases gk with
        | zero => exact absurd HA.out (by simp [laws_FnWrFullPieces.l0])
        | succ k1 =>
          have H := HA.out
          clear HA
          simp only [laws_FnWrFullPieces.l0] at H
          by_cases c8 : x10_1 < (l0.length : Int)
          · rw [if_pos c8] at H
            have c8b0 : decide (x10_1 < (l0.length : Int)) = true := decide_eq_true c8
            clear c8
            by_cases c9 : 0 ≤ x10_1
            · rw [if_pos c9] at H
              have c9b0 : decide (0 ≤ x10_1) = true := decide_eq_true c9
              clear c9
              by_cases c10 : ((rdOf ByteArray.empty l0 x10_1).size : Int) > 1024
              · rw [if_pos c10] at H
                have c10b0 : decide (1024 < ((rdOf ByteArray.empty l0 x10_1).size : Int)) = true := decide_eq_true c10
                have c10b1 : decide (1024 < (rdOf ByteArray.empty l0 x10_1).size) = true := decide_eq_true (by omega)
                clear c10
                obtain rfl := Option.some.inj H
                have p103 : 0 ≤ (x10_1 : Int) := of_decide_eq_true (by first | (with_reducible assumption) | assumption)
                have q103 : x10_1 < (l0.length : Int) := of_decide_eq_true (by first | (with_reducible assumption) | assumption)
                obtain ⟨ad103, e103, hx103_0⟩ := Kd.at_string HR0.out x10_1 p103 q103
                cases e103
                replace hx103_0 := (HB.out.cell (World.block_lt_of_cell? w _ hx103_0)).trans hx103_0
                replace p103 := eq_true p103
                replace q103 := eq_true q103
                go_wp2
                go_ret
                exact ⟨by first | rfl | (simp [errW_none, errW_some] <;> rfl) | (simp [*, errW_none, errW_some] <;> rfl), by repeat (first | (with_reducible first | exact HB.out | apply below_alloc | apply pw_below_drewN | apply below_drew1) | exact HB.out)⟩
              · rw [if_neg c10] at H
                have c10b0 : decide (1024 < ((rdOf ByteArray.empty l0 x10_1).size : Int)) = false := decide_eq_false c10
                have c10b1 : decide (1024 < (rdOf ByteArray.empty l0 x10_1).size) = false := decide_eq_false (by omega)
                clear c10
                by_cases c11 : x9_1.size + (rdOf ByteArray.empty l0 x10_1).size ≤ 9223372036854775807
                · rw [if_pos c11] at H
                  have c11b0 := eq_true c11
                  have c11b1 : decide (x9_1.size + (rdOf ByteArray.empty l0 x10_1).size ≤ 9223372036854775807) = true := decide_eq_true c11
                  try have c11b2 : (9223372036854775807 < x9_1.size + (rdOf ByteArray.empty l0 x10_1).size) = False := eq_false (Nat.not_lt.2 c11)
                  have H' := Aside0.mk H
                  clear H
                  have p103 : 0 ≤ (x10_1 : Int) := of_decide_eq_true (by first | (with_reducible assumption) | assumption)
                  have q103 : x10_1 < (l0.length : Int) := of_decide_eq_true (by first | (with_reducible assumption) | assumption)
                  obtain ⟨ad103, e103, hx103_0⟩ := Kd.at_string HR0.out x10_1 p103 q103
                  cases e103
                  replace hx103_0 := (HB.out.cell (World.block_lt_of_cell? w _ hx103_0)).trans hx103_0
                  replace p103 := eq_true p103
                  replace q103 := eq_true q103
                  have p104 : 0 ≤ (x10_1 : Int) := of_decide_eq_true (by first | (with_reducible assumption) | assumption)
                  have q104 : x10_1 < (l0.length : Int) := of_decide_eq_true (by first | (with_reducible assumption) | assumption)
                  obtain ⟨ad104, e104, hx104_0⟩ := Kd.at_string HR0.out x10_1 p104 q104
                  obtain rfl : ad103 = ad104 := (by injection e104)
                  replace hx104_0 := (HB.out.cell (World.block_lt_of_cell? w _ hx104_0)).trans hx104_0
                  replace p104 := eq_true p104
                  replace q104 := eq_true q104
                  go_wp2
                  go_roundg k1
                  case measure => have := HK1.out; omega
                  case rel => exact ⟨(x9_1 ++ (rdOf ByteArray.empty l0 x10_1)), (wrap64 (x10_1 + 1)), (by first | rfl | (simp; done) | (simp [*]; done)), (by first | rfl | (simp; done) | (simp [*]; done)), H', ⟨by have := HK1.out; omega⟩, ⟨by repeat (first | (with_reducible first | exact HB.out | apply below_alloc | apply pw_below_drewN | apply below_drew1) | exact HB.out)⟩⟩
                · rw [if_neg c11] at H
                  exact absurd H (by simp)
            · rw [if_neg c9] at H
              exact absurd H (by simp)
          · rw [if_neg c8] at H
            have c8b0 : decide (x10_1 < (l0.length : Int)) = false := decide_eq_false c8
            clear c8
            replace H := Option.bind_eq_some_iff.mp H
            obtain ⟨⟨t105, t106⟩, A120, H⟩ := H
            replace H : ((Given.WrFull.f (([x9_1] : List ByteArray)) (wrap64 (a2)) (wrap64 (a3))).bind fun bt110 => ((Given.WrFull.f (([(⟨#[97, 98]⟩ : ByteArray), (⟨#[99]⟩ : ByteArray)] : List ByteArray)) 1 3).bind fun bt115 => (if (t106 == bt110.2) = true then (if t106 = true then (if t105.toList = bt110.1.toList then (some bt115.2) else (some false)) else (some bt115.2)) else (some false)))) = some r := H
            have A12 := Aside0.mk A120
            clear A120
            obtain ⟨y107, hy107⟩ : ∃ y_ : List ByteArray, y_ = (([x9_1] : List ByteArray)) := ⟨_, rfl⟩
            replace H : ((Given.WrFull.f y107 (wrap64 (a2)) (wrap64 (a3))).bind fun bt110 => ((Given.WrFull.f (([(⟨#[97, 98]⟩ : ByteArray), (⟨#[99]⟩ : ByteArray)] : List ByteArray)) 1 3).bind fun bt115 => (if (t106 == bt110.2) = true then (if t106 = true then (if t105.toList = bt110.1.toList then (some bt115.2) else (some false)) else (some bt115.2)) else (some false)))) = some r := by first | (rw [hy107]; with_reducible exact H) | (have H2_ := (Option.bind_some _ _).symm.trans H; rw [hy107]; with_reducible exact H2_) | (have H2_ := (Option.bind_some _ _).symm.trans H; with_reducible exact H2_) | with_reducible exact H | (rw [hy107]; exact H) | exact H
            have Ny107 := Aside0.mk hy107
            clear hy107
            replace H := Option.bind_eq_some_iff.mp H
            obtain ⟨⟨t110, t111⟩, A130, H⟩ := H
            replace H : ((Given.WrFull.f (([(⟨#[97, 98]⟩ : ByteArray), (⟨#[99]⟩ : ByteArray)] : List ByteArray)) 1 3).bind fun bt115 => (if (t106 == t111) = true then (if t106 = true then (if t105.toList = t110.toList then (some bt115.2) else (some false)) else (some bt115.2)) else (some false))) = some r := H
            have A13 := Aside0.mk A130
            clear A130
            obtain ⟨y112, hy112⟩ : ∃ y_ : List ByteArray, y_ = (([(⟨#[97, 98]⟩ : ByteArray), (⟨#[99]⟩ : ByteArray)] : List ByteArray)) := ⟨_, rfl⟩
            replace H : ((Given.WrFull.f y112 1 3).bind fun bt115 => (if (t106 == t111) = true then (if t106 = true then (if t105.toList = t110.toList then (some bt115.2) else (some false)) else (some bt115.2)) else (some false))) = some r := by first | (rw [hy112]; with_reducible exact H) | (have H2_ := (Option.bind_some _ _).symm.trans H; rw [hy112]; with_reducible exact H2_) | (have H2_ := (Option.bind_some _ _).symm.trans H; with_reducible exact H2_) | with_reducible exact H | (rw [hy112]; exact H) | exact H
            have Ny112 := Aside0.mk hy112
            clear hy112
            replace H := Option.bind_eq_some_iff.mp H
            obtain ⟨⟨t115, t116⟩, A140, H⟩ := H
            replace H : (if (t106 == t111) = true then (if t106 = true then (if t105.toList = t110.toList then (some t116) else (some false)) else (some t116)) else (some false)) = some r := H
            have A14 := Aside0.mk A140
            clear A140
            by_cases c15 : (t106 == t111) = true
            · rw [if_pos c15] at H
              have c15b0 : (t106 == t111) = true := c15
              (try (have c15b1 : decide (t106 = t111) = true := by simpa using c15))
              (try (have c15b2 : (t106 == t111) = true := by simpa using c15))
              clear c15
              by_cases c16 : t106 = true
              · subst c16
                have H1 : (if t105.toList = t110.toList then (some t116) else (some false)) = some r := by rw [if_pos rfl] at H; exact H
                clear H
                have H := H1
                clear H1
                by_cases c17 : t105.toList = t110.toList
                · rw [if_pos c17] at H
                  have c17b0 : (t105.toList == t110.toList) = true := beq_iff_eq.mpr c17
                  have c17b1 : (t105.toList != t110.toList) = false := bne_eq_false_iff_eq.mpr c17
                  clear c17
                  obtain rfl := Option.some.inj H
                  go_wp2_with (first | ((with_reducible refine gate_callee (f := 7) rfl ?_); refine goesL_ (some 47) rfl rfl Tryd.func7 (by kernel_rfl) rfl #[.slice A0 l0.length c0, .int .i64 (wrap64 (a1)), .int .i64 (wrap64 (a3))] rfl (by (try simp only [List.map_toArray, List.map_cons, List.map_nil]); first | done | rfl | (simp only [List.length_drop, List.length_take]; rfl)) ?_; (with_reducible refine (Given.WrFull.calls _ _ l0 (wrap64 (a1)) (wrap64 (a3)) t105 true _ ?side1 ?side2 ?sideG A12.out).mono ?_); (case sideG => exact Given.Glob.below HG.out (by repeat (first | (with_reducible first | exact HB.out | apply below_alloc | apply pw_below_drewN | apply below_drew1) | exact HB.out))); (case side1 => repeat (first | exact (Kd.C_below HR0.out HB.out) | (with_reducible refine Kd.C_alloc ?_ _) | (with_reducible refine Kd.C_drewN ?_ _) | (with_reducible refine Kd.C_drew ?_))); (case side2 => exact HC0.out); rintro e w18 ⟨rfl, hb⟩; refine ⟨_, rfl, ?_⟩; have n0_ := Aside0.mk (below_step (by repeat (first | (with_reducible first | exact HB.out | apply below_alloc | apply pw_below_drewN | apply below_drew1) | exact HB.out)) hb); clear HB; have HB := n0_; clear n0_; (try clear hb); (try clear hb2); (try clear hk); (try clear hi)) | ((with_reducible refine gate_dst (N := 52) rfl ?_); refine Kd.R_lit Kd.string _ 9 ?hg (N := 52) ?hd (xs := ([x9_1] : List ByteArray)) (inner := [.string x9_1]) (ok := fun _ => True) (okp := fun _ => True) ?hr ?hp (fun _ hk => hk) trivial (Below.refl _ _) (Nat.le_refl _) (by simp) ?_; (case hd => rfl); (case hg => rfl); (case hr => first | (go_simp; done) | (go_simp; rfl)); (case hp => exact (Reps.one (show Kd.M Kd.string _ _ _ x9_1 [.string x9_1] from rfl) (Reps.none _ _))); intro v108 w19 ho20 hb hg_ hnew_; clear hg_ hnew_; (first | rw [← Ny107.out] at ho20 | (simp only [Int.reduceToNat] at ho20; rw [← Ny107.out] at ho20)); have n0_ := Aside0.mk (Kd.R_lower ho20 (below_size (by repeat (first | (with_reducible first | exact HB.out | apply below_alloc | apply pw_below_drewN | apply below_drew1) | exact HB.out)))); have n1_ := Aside0.mk (below_step (by repeat (first | (with_reducible first | exact HB.out | apply below_alloc | apply pw_below_drewN | apply below_drew1) | exact HB.out)) hb); clear HB; have HO109 := n0_; have HB := n1_; clear n0_ n1_; clear hb ho20; obtain ⟨Ao21, co21, eo21⟩ := Kd.R_slice HO109.out; subst eo21) | ((with_reducible refine gate_callee (f := 7) rfl ?_); refine goesL_ (some 57) rfl rfl Tryd.func7 (by kernel_rfl) rfl #[.slice Ao21 y107.length co21, .int .i64 (wrap64 (a2)), .int .i64 (wrap64 (a3))] rfl (by (try simp only [List.map_toArray, List.map_cons, List.map_nil]); first | done | rfl | (simp only [List.length_drop, List.length_take]; rfl)) ?_; (with_reducible refine (Given.WrFull.calls _ _ y107 (wrap64 (a2)) (wrap64 (a3)) t110 t111 _ ?side1 ?side2 ?sideG A13.out).mono ?_); (case sideG => exact Given.Glob.below HG.out (by repeat (first | (with_reducible first | exact HB.out | apply below_alloc | apply pw_below_drewN | apply below_drew1) | exact HB.out))); (case side1 => repeat (first | exact (Kd.R_reads' HO109.out).2.2 | (with_reducible refine Kd.C_alloc ?_ _) | (with_reducible refine Kd.C_drewN ?_ _) | (with_reducible refine Kd.C_drew ?_))); (case side2 => exact (Kd.R_reads' HO109.out).2.1); rintro e w22 ⟨rfl, hb⟩; refine ⟨_, rfl, ?_⟩; have n0_ := Aside0.mk (Kd.R_below (by (with_reducible repeat (first | apply Kd.R_alloc | apply Kd.R_drewN | apply Kd.R_drew)); exact HO109.out) hb); have n1_ := Aside0.mk (below_step (by repeat (first | (with_reducible first | exact HB.out | apply below_alloc | apply pw_below_drewN | apply below_drew1) | exact HB.out)) hb); clear HO109; clear HB; have HO109 := n0_; have HB := n1_; clear n0_ n1_; (try clear hb); (try clear hb2); (try clear hk); (try clear hi)) | ((with_reducible refine gate_dst (N := 61) rfl ?_); refine Kd.R_lit Kd.string _ 9 ?hg (N := 61) ?hd (xs := ([(⟨#[97, 98]⟩ : ByteArray), (⟨#[99]⟩ : ByteArray)] : List ByteArray)) (inner := [.string (⟨#[97, 98]⟩ : ByteArray), .string (⟨#[99]⟩ : ByteArray)]) (ok := fun _ => True) (okp := fun _ => True) ?hr ?hp (fun _ hk => hk) trivial (Below.refl _ _) (Nat.le_refl _) (by simp) ?_; (case hd => rfl); (case hg => rfl); (case hr => first | (go_simp; done) | (go_simp; rfl)); (case hp => exact (Reps.one (show Kd.M Kd.string _ _ _ (⟨#[97, 98]⟩ : ByteArray) [.string (⟨#[97, 98]⟩ : ByteArray)] from rfl) (Reps.one (show Kd.M Kd.string _ _ _ (⟨#[99]⟩ : ByteArray) [.string (⟨#[99]⟩ : ByteArray)] from rfl) (Reps.none _ _)))); intro v113 w23 ho24 hb hg_ hnew_; clear hg_ hnew_; (first | rw [← Ny112.out] at ho24 | (simp only [Int.reduceToNat] at ho24; rw [← Ny112.out] at ho24)); have n0_ := Aside0.mk (Kd.R_elder' (by (with_reducible repeat (first | apply Kd.R_alloc | apply Kd.R_drewN | apply Kd.R_drew)); exact HO109.out) (Kd.R_base ho24) hb); have n1_ := Aside0.mk (Kd.R_lower (Kd.R_new' ho24 (Kd.R_lt (by (with_reducible repeat (first | apply Kd.R_alloc | apply Kd.R_drewN | apply Kd.R_drew)); exact HO109.out))) (below_size (by repeat (first | (with_reducible first | exact HB.out | apply below_alloc | apply pw_below_drewN | apply below_drew1) | exact HB.out)))); have n2_ := Aside0.mk (below_step (by repeat (first | (with_reducible first | exact HB.out | apply below_alloc | apply pw_below_drewN | apply below_drew1) | exact HB.out)) hb); clear HO109; clear HB; have HO109 := n0_; have HO114 := n1_; have HB := n2_; clear n0_ n1_ n2_; clear hb ho24; obtain ⟨Ao25, co25, eo25⟩ := Kd.R_slice HO114.out; subst eo25) | ((with_reducible refine gate_callee (f := 7) rfl ?_); refine goesL_ (some 62) rfl rfl Tryd.func7 (by kernel_rfl) rfl #[.slice Ao25 y112.length co25, .int .i64 1, .int .i64 3] rfl (by (try simp only [List.map_toArray, List.map_cons, List.map_nil]); first | done | rfl | (simp only [List.length_drop, List.length_take]; rfl)) ?_; (with_reducible refine (Given.WrFull.calls _ _ y112 1 3 t115 t116 _ ?side1 ?side2 ?sideG A14.out).mono ?_); (case sideG => exact Given.Glob.below HG.out (by repeat (first | (with_reducible first | exact HB.out | apply below_alloc | apply pw_below_drewN | apply below_drew1) | exact HB.out))); (case side1 => repeat (first | exact (Kd.R_reads' HO114.out).2.2 | (with_reducible refine Kd.C_alloc ?_ _) | (with_reducible refine Kd.C_drewN ?_ _) | (with_reducible refine Kd.C_drew ?_))); (case side2 => exact (Kd.R_reads' HO114.out).2.1); rintro e w26 ⟨rfl, hb⟩; refine ⟨_, rfl, ?_⟩; have n0_ := Aside0.mk (Kd.R_below (by (with_reducible repeat (first | apply Kd.R_alloc | apply Kd.R_drewN | apply Kd.R_drew)); exact HO109.out) hb); have n1_ := Aside0.mk (Kd.R_below (by (with_reducible repeat (first | apply Kd.R_alloc | apply Kd.R_drewN | apply Kd.R_drew)); exact HO114.out) hb); have n2_ := Aside0.mk (below_step (by repeat (first | (with_reducible first | exact HB.out | apply below_alloc | apply pw_below_drewN | apply below_drew1) | exact HB.out)) hb); clear HO109; clear HO114; clear HB; have HO109 := n0_; have HO114 := n1_; have HB := n2_; clear n0_ n1_ n2_; (try clear hb); (try clear hb2); (try clear hk); (try clear hi)))
                  go_ret
                  exact ⟨by first | rfl | (simp [errW_none, errW_some] <;> rfl) | (simp [*, errW_none, errW_some] <;> rfl), by repeat (first | (with_reducible first | exact HB.out | apply below_alloc | apply pw_below_drewN | apply below_drew1) | exact HB.out)⟩
                · rw [if_neg c17] at H
                  have c17b0 : (t105.toList == t110.toList) = false := beq_eq_false_iff_ne.mpr c17
                  have c17b1 : (t105.toList != t110.toList) = true := bne_iff_ne.mpr c17
                  obtain rfl := Option.some.inj H
                  go_wp2_with (first | ((with_reducible refine gate_callee (f := 7) rfl ?_); refine goesL_ (some 47) rfl rfl Tryd.func7 (by kernel_rfl) rfl #[.slice A0 l0.length c0, .int .i64 (wrap64 (a1)), .int .i64 (wrap64 (a3))] rfl (by (try simp only [List.map_toArray, List.map_cons, List.map_nil]); first | done | rfl | (simp only [List.length_drop, List.length_take]; rfl)) ?_; (with_reducible refine (Given.WrFull.calls _ _ l0 (wrap64 (a1)) (wrap64 (a3)) t105 true _ ?side1 ?side2 ?sideG A12.out).mono ?_); (case sideG => exact Given.Glob.below HG.out (by repeat (first | (with_reducible first | exact HB.out | apply below_alloc | apply pw_below_drewN | apply below_drew1) | exact HB.out))); (case side1 => repeat (first | exact (Kd.C_below HR0.out HB.out) | (with_reducible refine Kd.C_alloc ?_ _) | (with_reducible refine Kd.C_drewN ?_ _) | (with_reducible refine Kd.C_drew ?_))); (case side2 => exact HC0.out); rintro e w27 ⟨rfl, hb⟩; refine ⟨_, rfl, ?_⟩; have n0_ := Aside0.mk (below_step (by repeat (first | (with_reducible first | exact HB.out | apply below_alloc | apply pw_below_drewN | apply below_drew1) | exact HB.out)) hb); clear HB; have HB := n0_; clear n0_; (try clear hb); (try clear hb2); (try clear hk); (try clear hi)) | ((with_reducible refine gate_dst (N := 52) rfl ?_); refine Kd.R_lit Kd.string _ 9 ?hg (N := 52) ?hd (xs := ([x9_1] : List ByteArray)) (inner := [.string x9_1]) (ok := fun _ => True) (okp := fun _ => True) ?hr ?hp (fun _ hk => hk) trivial (Below.refl _ _) (Nat.le_refl _) (by simp) ?_; (case hd => rfl); (case hg => rfl); (case hr => first | (go_simp; done) | (go_simp; rfl)); (case hp => exact (Reps.one (show Kd.M Kd.string _ _ _ x9_1 [.string x9_1] from rfl) (Reps.none _ _))); intro v108 w28 ho29 hb hg_ hnew_; clear hg_ hnew_; (first | rw [← Ny107.out] at ho29 | (simp only [Int.reduceToNat] at ho29; rw [← Ny107.out] at ho29)); have n0_ := Aside0.mk (Kd.R_lower ho29 (below_size (by repeat (first | (with_reducible first | exact HB.out | apply below_alloc | apply pw_below_drewN | apply below_drew1) | exact HB.out)))); have n1_ := Aside0.mk (below_step (by repeat (first | (with_reducible first | exact HB.out | apply below_alloc | apply pw_below_drewN | apply below_drew1) | exact HB.out)) hb); clear HB; have HO109 := n0_; have HB := n1_; clear n0_ n1_; clear hb ho29; obtain ⟨Ao30, co30, eo30⟩ := Kd.R_slice HO109.out; subst eo30) | ((with_reducible refine gate_callee (f := 7) rfl ?_); refine goesL_ (some 57) rfl rfl Tryd.func7 (by kernel_rfl) rfl #[.slice Ao30 y107.length co30, .int .i64 (wrap64 (a2)), .int .i64 (wrap64 (a3))] rfl (by (try simp only [List.map_toArray, List.map_cons, List.map_nil]); first | done | rfl | (simp only [List.length_drop, List.length_take]; rfl)) ?_; (with_reducible refine (Given.WrFull.calls _ _ y107 (wrap64 (a2)) (wrap64 (a3)) t110 t111 _ ?side1 ?side2 ?sideG A13.out).mono ?_); (case sideG => exact Given.Glob.below HG.out (by repeat (first | (with_reducible first | exact HB.out | apply below_alloc | apply pw_below_drewN | apply below_drew1) | exact HB.out))); (case side1 => repeat (first | exact (Kd.R_reads' HO109.out).2.2 | (with_reducible refine Kd.C_alloc ?_ _) | (with_reducible refine Kd.C_drewN ?_ _) | (with_reducible refine Kd.C_drew ?_))); (case side2 => exact (Kd.R_reads' HO109.out).2.1); rintro e w31 ⟨rfl, hb⟩; refine ⟨_, rfl, ?_⟩; have n0_ := Aside0.mk (Kd.R_below (by (with_reducible repeat (first | apply Kd.R_alloc | apply Kd.R_drewN | apply Kd.R_drew)); exact HO109.out) hb); have n1_ := Aside0.mk (below_step (by repeat (first | (with_reducible first | exact HB.out | apply below_alloc | apply pw_below_drewN | apply below_drew1) | exact HB.out)) hb); clear HO109; clear HB; have HO109 := n0_; have HB := n1_; clear n0_ n1_; (try clear hb); (try clear hb2); (try clear hk); (try clear hi)) | ((with_reducible refine gate_dst (N := 61) rfl ?_); refine Kd.R_lit Kd.string _ 9 ?hg (N := 61) ?hd (xs := ([(⟨#[97, 98]⟩ : ByteArray), (⟨#[99]⟩ : ByteArray)] : List ByteArray)) (inner := [.string (⟨#[97, 98]⟩ : ByteArray), .string (⟨#[99]⟩ : ByteArray)]) (ok := fun _ => True) (okp := fun _ => True) ?hr ?hp (fun _ hk => hk) trivial (Below.refl _ _) (Nat.le_refl _) (by simp) ?_; (case hd => rfl); (case hg => rfl); (case hr => first | (go_simp; done) | (go_simp; rfl)); (case hp => exact (Reps.one (show Kd.M Kd.string _ _ _ (⟨#[97, 98]⟩ : ByteArray) [.string (⟨#[97, 98]⟩ : ByteArray)] from rfl) (Reps.one (show Kd.M Kd.string _ _ _ (⟨#[99]⟩ : ByteArray) [.string (⟨#[99]⟩ : ByteArray)] from rfl) (Reps.none _ _)))); intro v113 w32 ho33 hb hg_ hnew_; clear hg_ hnew_; (first | rw [← Ny112.out] at ho33 | (simp only [Int.reduceToNat] at ho33; rw [← Ny112.out] at ho33)); have n0_ := Aside0.mk (Kd.R_elder' (by (with_reducible repeat (first | apply Kd.R_alloc | apply Kd.R_drewN | apply Kd.R_drew)); exact HO109.out) (Kd.R_base ho33) hb); have n1_ := Aside0.mk (Kd.R_lower (Kd.R_new' ho33 (Kd.R_lt (by (with_reducible repeat (first | apply Kd.R_alloc | apply Kd.R_drewN | apply Kd.R_drew)); exact HO109.out))) (below_size (by repeat (first | (with_reducible first | exact HB.out | apply below_alloc | apply pw_below_drewN | apply below_drew1) | exact HB.out)))); have n2_ := Aside0.mk (below_step (by repeat (first | (with_reducible first | exact HB.out | apply below_alloc | apply pw_below_drewN | apply below_drew1) | exact HB.out)) hb); clear HO109; clear HB; have HO109 := n0_; have HO114 := n1_; have HB := n2_; clear n0_ n1_ n2_; clear hb ho33; obtain ⟨Ao34, co34, eo34⟩ := Kd.R_slice HO114.out; subst eo34) | ((with_reducible refine gate_callee (f := 7) rfl ?_); refine goesL_ (some 62) rfl rfl Tryd.func7 (by kernel_rfl) rfl #[.slice Ao34 y112.length co34, .int .i64 1, .int .i64 3] rfl (by (try simp only [List.map_toArray, List.map_cons, List.map_nil]); first | done | rfl | (simp only [List.length_drop, List.length_take]; rfl)) ?_; (with_reducible refine (Given.WrFull.calls _ _ y112 1 3 t115 t116 _ ?side1 ?side2 ?sideG A14.out).mono ?_); (case sideG => exact Given.Glob.below HG.out (by repeat (first | (with_reducible first | exact HB.out | apply below_alloc | apply pw_below_drewN | apply below_drew1) | exact HB.out))); (case side1 => repeat (first | exact (Kd.R_reads' HO114.out).2.2 | (with_reducible refine Kd.C_alloc ?_ _) | (with_reducible refine Kd.C_drewN ?_ _) | (with_reducible refine Kd.C_drew ?_))); (case side2 => exact (Kd.R_reads' HO114.out).2.1); rintro e w35 ⟨rfl, hb⟩; refine ⟨_, rfl, ?_⟩; have n0_ := Aside0.mk (Kd.R_below (by (with_reducible repeat (first | apply Kd.R_alloc | apply Kd.R_drewN | apply Kd.R_drew)); exact HO109.out) hb); have n1_ := Aside0.mk (Kd.R_below (by (with_reducible repeat (first | apply Kd.R_alloc | apply Kd.R_drewN | apply Kd.R_drew)); exact HO114.out) hb); have n2_ := Aside0.mk (below_step (by repeat (first | (with_reducible first | exact HB.out | apply below_alloc | apply pw_below_drewN | apply below_drew1) | exact HB.out)) hb); clear HO109; clear HO114; clear HB; have HO109 := n0_; have HO114 := n1_; have HB := n2_; clear n0_ n1_ n2_; (try clear hb); (try clear hb2); (try clear hk); (try clear hi)))
                  go_ret
                  exact ⟨by first | rfl | (simp [errW_none, errW_some] <;> rfl) | (simp [*, errW_none, errW_some] <;> rfl), by repeat (first | (with_reducible first | exact HB.out | apply below_alloc | apply pw_below_drewN | apply below_drew1) | exact HB.out)⟩
              · replace c16 := Bool.eq_false_iff.mpr c16
                subst c16
                have H1 : (some t116) = some r := by rw [if_neg (show ¬ (false = true) by decide)] at H; exact H
                clear H
                have H := H1
                clear H1
                obtain rfl := Option.some.inj H
                go_wp2_with (first | ((with_reducible refine gate_callee (f := 7) rfl ?_); refine goesL_ (some 47) rfl rfl Tryd.func7 (by kernel_rfl) rfl #[.slice A0 l0.length c0, .int .i64 (wrap64 (a1)), .int .i64 (wrap64 (a3))] rfl (by (try simp only [List.map_toArray, List.map_cons, List.map_nil]); first | done | rfl | (simp only [List.length_drop, List.length_take]; rfl)) ?_; (with_reducible refine (Given.WrFull.calls _ _ l0 (wrap64 (a1)) (wrap64 (a3)) t105 false _ ?side1 ?side2 ?sideG A12.out).mono ?_); (case sideG => exact Given.Glob.below HG.out (by repeat (first | (with_reducible first | exact HB.out | apply below_alloc | apply pw_below_drewN | apply below_drew1) | exact HB.out))); (case side1 => repeat (first | exact (Kd.C_below HR0.out HB.out) | (with_reducible refine Kd.C_alloc ?_ _) | (with_reducible refine Kd.C_drewN ?_ _) | (with_reducible refine Kd.C_drew ?_))); (case side2 => exact HC0.out); rintro e w36 ⟨rfl, hb⟩; refine ⟨_, rfl, ?_⟩; have n0_ := Aside0.mk (below_step (by repeat (first | (with_reducible first | exact HB.out | apply below_alloc | apply pw_below_drewN | apply below_drew1) | exact HB.out)) hb); clear HB; have HB := n0_; clear n0_; (try clear hb); (try clear hb2); (try clear hk); (try clear hi)) | ((with_reducible refine gate_dst (N := 52) rfl ?_); refine Kd.R_lit Kd.string _ 9 ?hg (N := 52) ?hd (xs := ([x9_1] : List ByteArray)) (inner := [.string x9_1]) (ok := fun _ => True) (okp := fun _ => True) ?hr ?hp (fun _ hk => hk) trivial (Below.refl _ _) (Nat.le_refl _) (by simp) ?_; (case hd => rfl); (case hg => rfl); (case hr => first | (go_simp; done) | (go_simp; rfl)); (case hp => exact (Reps.one (show Kd.M Kd.string _ _ _ x9_1 [.string x9_1] from rfl) (Reps.none _ _))); intro v108 w37 ho38 hb hg_ hnew_; clear hg_ hnew_; (first | rw [← Ny107.out] at ho38 | (simp only [Int.reduceToNat] at ho38; rw [← Ny107.out] at ho38)); have n0_ := Aside0.mk (Kd.R_lower ho38 (below_size (by repeat (first | (with_reducible first | exact HB.out | apply below_alloc | apply pw_below_drewN | apply below_drew1) | exact HB.out)))); have n1_ := Aside0.mk (below_step (by repeat (first | (with_reducible first | exact HB.out | apply below_alloc | apply pw_below_drewN | apply below_drew1) | exact HB.out)) hb); clear HB; have HO109 := n0_; have HB := n1_; clear n0_ n1_; clear hb ho38; obtain ⟨Ao39, co39, eo39⟩ := Kd.R_slice HO109.out; subst eo39) | ((with_reducible refine gate_callee (f := 7) rfl ?_); refine goesL_ (some 57) rfl rfl Tryd.func7 (by kernel_rfl) rfl #[.slice Ao39 y107.length co39, .int .i64 (wrap64 (a2)), .int .i64 (wrap64 (a3))] rfl (by (try simp only [List.map_toArray, List.map_cons, List.map_nil]); first | done | rfl | (simp only [List.length_drop, List.length_take]; rfl)) ?_; (with_reducible refine (Given.WrFull.calls _ _ y107 (wrap64 (a2)) (wrap64 (a3)) t110 t111 _ ?side1 ?side2 ?sideG A13.out).mono ?_); (case sideG => exact Given.Glob.below HG.out (by repeat (first | (with_reducible first | exact HB.out | apply below_alloc | apply pw_below_drewN | apply below_drew1) | exact HB.out))); (case side1 => repeat (first | exact (Kd.R_reads' HO109.out).2.2 | (with_reducible refine Kd.C_alloc ?_ _) | (with_reducible refine Kd.C_drewN ?_ _) | (with_reducible refine Kd.C_drew ?_))); (case side2 => exact (Kd.R_reads' HO109.out).2.1); rintro e w40 ⟨rfl, hb⟩; refine ⟨_, rfl, ?_⟩; have n0_ := Aside0.mk (Kd.R_below (by (with_reducible repeat (first | apply Kd.R_alloc | apply Kd.R_drewN | apply Kd.R_drew)); exact HO109.out) hb); have n1_ := Aside0.mk (below_step (by repeat (first | (with_reducible first | exact HB.out | apply below_alloc | apply pw_below_drewN | apply below_drew1) | exact HB.out)) hb); clear HO109; clear HB; have HO109 := n0_; have HB := n1_; clear n0_ n1_; (try clear hb); (try clear hb2); (try clear hk); (try clear hi)) | ((with_reducible refine gate_dst (N := 61) rfl ?_); refine Kd.R_lit Kd.string _ 9 ?hg (N := 61) ?hd (xs := ([(⟨#[97, 98]⟩ : ByteArray), (⟨#[99]⟩ : ByteArray)] : List ByteArray)) (inner := [.string (⟨#[97, 98]⟩ : ByteArray), .string (⟨#[99]⟩ : ByteArray)]) (ok := fun _ => True) (okp := fun _ => True) ?hr ?hp (fun _ hk => hk) trivial (Below.refl _ _) (Nat.le_refl _) (by simp) ?_; (case hd => rfl); (case hg => rfl); (case hr => first | (go_simp; done) | (go_simp; rfl)); (case hp => exact (Reps.one (show Kd.M Kd.string _ _ _ (⟨#[97, 98]⟩ : ByteArray) [.string (⟨#[97, 98]⟩ : ByteArray)] from rfl) (Reps.one (show Kd.M Kd.string _ _ _ (⟨#[99]⟩ : ByteArray) [.string (⟨#[99]⟩ : ByteArray)] from rfl) (Reps.none _ _)))); intro v113 w41 ho42 hb hg_ hnew_; clear hg_ hnew_; (first | rw [← Ny112.out] at ho42 | (simp only [Int.reduceToNat] at ho42; rw [← Ny112.out] at ho42)); have n0_ := Aside0.mk (Kd.R_elder' (by (with_reducible repeat (first | apply Kd.R_alloc | apply Kd.R_drewN | apply Kd.R_drew)); exact HO109.out) (Kd.R_base ho42) hb); have n1_ := Aside0.mk (Kd.R_lower (Kd.R_new' ho42 (Kd.R_lt (by (with_reducible repeat (first | apply Kd.R_alloc | apply Kd.R_drewN | apply Kd.R_drew)); exact HO109.out))) (below_size (by repeat (first | (with_reducible first | exact HB.out | apply below_alloc | apply pw_below_drewN | apply below_drew1) | exact HB.out)))); have n2_ := Aside0.mk (below_step (by repeat (first | (with_reducible first | exact HB.out | apply below_alloc | apply pw_below_drewN | apply below_drew1) | exact HB.out)) hb); clear HO109; clear HB; have HO109 := n0_; have HO114 := n1_; have HB := n2_; clear n0_ n1_ n2_; clear hb ho42; obtain ⟨Ao43, co43, eo43⟩ := Kd.R_slice HO114.out; subst eo43) | ((with_reducible refine gate_callee (f := 7) rfl ?_); refine goesL_ (some 62) rfl rfl Tryd.func7 (by kernel_rfl) rfl #[.slice Ao43 y112.length co43, .int .i64 1, .int .i64 3] rfl (by (try simp only [List.map_toArray, List.map_cons, List.map_nil]); first | done | rfl | (simp only [List.length_drop, List.length_take]; rfl)) ?_; (with_reducible refine (Given.WrFull.calls _ _ y112 1 3 t115 t116 _ ?side1 ?side2 ?sideG A14.out).mono ?_); (case sideG => exact Given.Glob.below HG.out (by repeat (first | (with_reducible first | exact HB.out | apply below_alloc | apply pw_below_drewN | apply below_drew1) | exact HB.out))); (case side1 => repeat (first | exact (Kd.R_reads' HO114.out).2.2 | (with_reducible refine Kd.C_alloc ?_ _) | (with_reducible refine Kd.C_drewN ?_ _) | (with_reducible refine Kd.C_drew ?_))); (case side2 => exact (Kd.R_reads' HO114.out).2.1); rintro e w44 ⟨rfl, hb⟩; refine ⟨_, rfl, ?_⟩; have n0_ := Aside0.mk (Kd.R_below (by (with_reducible repeat (first | apply Kd.R_alloc | apply Kd.R_drewN | apply Kd.R_drew)); exact HO109.out) hb); have n1_ := Aside0.mk (Kd.R_below (by (with_reducible repeat (first | apply Kd.R_alloc | apply Kd.R_drewN | apply Kd.R_drew)); exact HO114.out) hb); have n2_ := Aside0.mk (below_step (by repeat (first | (with_reducible first | exact HB.out | apply below_alloc | apply pw_below_drewN | apply below_drew1) | exact HB.out)) hb); clear HO109; clear HO114; clear HB; have HO109 := n0_; have HO114 := n1_; have HB := n2_; clear n0_ n1_ n2_; (try clear hb); (try clear hb2); (try clear hk); (try clear hi)))
                go_ret
                exact ⟨by first | rfl | (simp [errW_none, errW_some] <;> rfl) | (simp [*, errW_none, errW_some] <;> rfl), by repeat (first | (with_reducible first | exact HB.out | apply below_alloc | apply pw_below_drewN | apply below_drew1) | exact HB.out)⟩
            · rw [if_neg c15] at H
              have c15b0 : (t106 == t111) = false := by simpa using c15
              (try (have c15b1 : decide (t106 = t111) = false := by simpa using c15))
              (try (have c15b2 : (t106 == t111) = false := by simpa using c15))
              (try (have c15b3 : ¬ (t106 = t111) := by simpa using c15))
              clear c15
              obtain rfl := Option.some.inj H
              go_wp2_with (first | ((with_reducible refine gate_callee (f := 7) rfl ?_); refine goesL_ (some 47) rfl rfl Tryd.func7 (by kernel_rfl) rfl #[.slice A0 l0.length c0, .int .i64 (wrap64 (a1)), .int .i64 (wrap64 (a3))] rfl (by (try simp only [List.map_toArray, List.map_cons, List.map_nil]); first | done | rfl | (simp only [List.length_drop, List.length_take]; rfl)) ?_; (with_reducible refine (Given.WrFull.calls _ _ l0 (wrap64 (a1)) (wrap64 (a3)) t105 t106 _ ?side1 ?side2 ?sideG A12.out).mono ?_); (case sideG => exact Given.Glob.below HG.out (by repeat (first | (with_reducible first | exact HB.out | apply below_alloc | apply pw_below_drewN | apply below_drew1) | exact HB.out))); (case side1 => repeat (first | exact (Kd.C_below HR0.out HB.out) | (with_reducible refine Kd.C_alloc ?_ _) | (with_reducible refine Kd.C_drewN ?_ _) | (with_reducible refine Kd.C_drew ?_))); (case side2 => exact HC0.out); rintro e w45 ⟨rfl, hb⟩; refine ⟨_, rfl, ?_⟩; have n0_ := Aside0.mk (below_step (by repeat (first | (with_reducible first | exact HB.out | apply below_alloc | apply pw_below_drewN | apply below_drew1) | exact HB.out)) hb); clear HB; have HB := n0_; clear n0_; (try clear hb); (try clear hb2); (try clear hk); (try clear hi)) | ((with_reducible refine gate_dst (N := 52) rfl ?_); refine Kd.R_lit Kd.string _ 9 ?hg (N := 52) ?hd (xs := ([x9_1] : List ByteArray)) (inner := [.string x9_1]) (ok := fun _ => True) (okp := fun _ => True) ?hr ?hp (fun _ hk => hk) trivial (Below.refl _ _) (Nat.le_refl _) (by simp) ?_; (case hd => rfl); (case hg => rfl); (case hr => first | (go_simp; done) | (go_simp; rfl)); (case hp => exact (Reps.one (show Kd.M Kd.string _ _ _ x9_1 [.string x9_1] from rfl) (Reps.none _ _))); intro v108 w46 ho47 hb hg_ hnew_; clear hg_ hnew_; (first | rw [← Ny107.out] at ho47 | (simp only [Int.reduceToNat] at ho47; rw [← Ny107.out] at ho47)); have n0_ := Aside0.mk (Kd.R_lower ho47 (below_size (by repeat (first | (with_reducible first | exact HB.out | apply below_alloc | apply pw_below_drewN | apply below_drew1) | exact HB.out)))); have n1_ := Aside0.mk (below_step (by repeat (first | (with_reducible first | exact HB.out | apply below_alloc | apply pw_below_drewN | apply below_drew1) | exact HB.out)) hb); clear HB; have HO109 := n0_; have HB := n1_; clear n0_ n1_; clear hb ho47; obtain ⟨Ao48, co48, eo48⟩ := Kd.R_slice HO109.out; subst eo48) | ((with_reducible refine gate_callee (f := 7) rfl ?_); refine goesL_ (some 57) rfl rfl Tryd.func7 (by kernel_rfl) rfl #[.slice Ao48 y107.length co48, .int .i64 (wrap64 (a2)), .int .i64 (wrap64 (a3))] rfl (by (try simp only [List.map_toArray, List.map_cons, List.map_nil]); first | done | rfl | (simp only [List.length_drop, List.length_take]; rfl)) ?_; (with_reducible refine (Given.WrFull.calls _ _ y107 (wrap64 (a2)) (wrap64 (a3)) t110 t111 _ ?side1 ?side2 ?sideG A13.out).mono ?_); (case sideG => exact Given.Glob.below HG.out (by repeat (first | (with_reducible first | exact HB.out | apply below_alloc | apply pw_below_drewN | apply below_drew1) | exact HB.out))); (case side1 => repeat (first | exact (Kd.R_reads' HO109.out).2.2 | (with_reducible refine Kd.C_alloc ?_ _) | (with_reducible refine Kd.C_drewN ?_ _) | (with_reducible refine Kd.C_drew ?_))); (case side2 => exact (Kd.R_reads' HO109.out).2.1); rintro e w49 ⟨rfl, hb⟩; refine ⟨_, rfl, ?_⟩; have n0_ := Aside0.mk (Kd.R_below (by (with_reducible repeat (first | apply Kd.R_alloc | apply Kd.R_drewN | apply Kd.R_drew)); exact HO109.out) hb); have n1_ := Aside0.mk (below_step (by repeat (first | (with_reducible first | exact HB.out | apply below_alloc | apply pw_below_drewN | apply below_drew1) | exact HB.out)) hb); clear HO109; clear HB; have HO109 := n0_; have HB := n1_; clear n0_ n1_; (try clear hb); (try clear hb2); (try clear hk); (try clear hi)) | ((with_reducible refine gate_dst (N := 61) rfl ?_); refine Kd.R_lit Kd.string _ 9 ?hg (N := 61) ?hd (xs := ([(⟨#[97, 98]⟩ : ByteArray), (⟨#[99]⟩ : ByteArray)] : List ByteArray)) (inner := [.string (⟨#[97, 98]⟩ : ByteArray), .string (⟨#[99]⟩ : ByteArray)]) (ok := fun _ => True) (okp := fun _ => True) ?hr ?hp (fun _ hk => hk) trivial (Below.refl _ _) (Nat.le_refl _) (by simp) ?_; (case hd => rfl); (case hg => rfl); (case hr => first | (go_simp; done) | (go_simp; rfl)); (case hp => exact (Reps.one (show Kd.M Kd.string _ _ _ (⟨#[97, 98]⟩ : ByteArray) [.string (⟨#[97, 98]⟩ : ByteArray)] from rfl) (Reps.one (show Kd.M Kd.string _ _ _ (⟨#[99]⟩ : ByteArray) [.string (⟨#[99]⟩ : ByteArray)] from rfl) (Reps.none _ _)))); intro v113 w50 ho51 hb hg_ hnew_; clear hg_ hnew_; (first | rw [← Ny112.out] at ho51 | (simp only [Int.reduceToNat] at ho51; rw [← Ny112.out] at ho51)); have n0_ := Aside0.mk (Kd.R_elder' (by (with_reducible repeat (first | apply Kd.R_alloc | apply Kd.R_drewN | apply Kd.R_drew)); exact HO109.out) (Kd.R_base ho51) hb); have n1_ := Aside0.mk (Kd.R_lower (Kd.R_new' ho51 (Kd.R_lt (by (with_reducible repeat (first | apply Kd.R_alloc | apply Kd.R_drewN | apply Kd.R_drew)); exact HO109.out))) (below_size (by repeat (first | (with_reducible first | exact HB.out | apply below_alloc | apply pw_below_drewN | apply below_drew1) | exact HB.out)))); have n2_ := Aside0.mk (below_step (by repeat (first | (with_reducible first | exact HB.out | apply below_alloc | apply pw_below_drewN | apply below_drew1) | exact HB.out)) hb); clear HO109; clear HB; have HO109 := n0_; have HO114 := n1_; have HB := n2_; clear n0_ n1_ n2_; clear hb ho51; obtain ⟨Ao52, co52, eo52⟩ := Kd.R_slice HO114.out; subst eo52) | ((with_reducible refine gate_callee (f := 7) rfl ?_); refine goesL_ (some 62) rfl rfl Tryd.func7 (by kernel_rfl) rfl #[.slice Ao52 y112.length co52, .int .i64 1, .int .i64 3] rfl (by (try simp only [List.map_toArray, List.map_cons, List.map_nil]); first | done | rfl | (simp only [List.length_drop, List.length_take]; rfl)) ?_; (with_reducible refine (Given.WrFull.calls _ _ y112 1 3 t115 t116 _ ?side1 ?side2 ?sideG A14.out).mono ?_); (case sideG => exact Given.Glob.below HG.out (by repeat (first | (with_reducible first | exact HB.out | apply below_alloc | apply pw_below_drewN | apply below_drew1) | exact HB.out))); (case side1 => repeat (first | exact (Kd.R_reads' HO114.out).2.2 | (with_reducible refine Kd.C_alloc ?_ _) | (with_reducible refine Kd.C_drewN ?_ _) | (with_reducible refine Kd.C_drew ?_))); (case side2 => exact (Kd.R_reads' HO114.out).2.1); rintro e w53 ⟨rfl, hb⟩; refine ⟨_, rfl, ?_⟩; have n0_ := Aside0.mk (Kd.R_below (by (with_reducible repeat (first | apply Kd.R_alloc | apply Kd.R_drewN | apply Kd.R_drew)); exact HO109.out) hb); have n1_ := Aside0.mk (Kd.R_below (by (with_reducible repeat (first | apply Kd.R_alloc | apply Kd.R_drewN | apply Kd.R_drew)); exact HO114.out) hb); have n2_ := Aside0.mk (below_step (by repeat (first | (with_reducible first | exact HB.out | apply below_alloc | apply pw_below_drewN | apply below_drew1) | exact HB.out)) hb); clear HO109; clear HO114; clear HB; have HO109 := n0_; have HO114 := n1_; have HB := n2_; clear n0_ n1_ n2_; (try clear hb); (try clear hb2); (try clear hk); (try clear hi)))
              go_ret
              exact ⟨by first | rfl | (simp [errW_none, errW_some] <;> rfl) | (simp [*, errW_none, errW_some] <;> rfl), by repeat (first | (with_reducible first | exact HB.out | apply below_alloc | apply pw_below_drewN | apply below_drew1) | exact HB.out)⟩
  · replace c6 := Bool.eq_false_iff.mpr c6
    subst c6
    have H1 : (some true) = some r := by rw [if_neg (show ¬ (false = true) by decide)] at H; exact H
    clear H
    have H := H1
    clear H1
    obtain rfl := Option.some.inj H
    go_enter Tryd.func4, Tryd.ntmps4
    go_wp2_with (first | ((with_reducible refine gate_callee (f := 9) rfl ?_); refine goesL_ (some 18) rfl rfl Tryd.func9 (by kernel_rfl) rfl #[.slice A0 l0.length c0] rfl (by (try simp only [List.map_toArray, List.map_cons, List.map_nil]); first | done | rfl | (simp only [List.length_drop, List.length_take]; rfl)) ?_; (with_reducible refine (laws_zzFits5.calls k _ _ l0 false _ ?side1 ?side2 A5.out).mono ?_); (case side1 => repeat (first | exact HR0.out | (with_reducible refine Kd.C_alloc ?_ _) | (with_reducible refine Kd.C_drewN ?_ _) | (with_reducible refine Kd.C_drew ?_))); (case side2 => exact HC0.out); rintro e w' ⟨rfl, ⟨nd, rfl⟩⟩; refine ⟨_, rfl, ?_⟩))
    go_ret
    exact ⟨by first | rfl | (simp [errW_none, errW_some] <;> rfl) | (simp [*, errW_none, errW_some] <;> rfl), by repeat (first | (with_reducible first | exact HB.out | apply below_alloc | apply pw_below_drewN | apply below_drew1) | exact HB.out)⟩

/-! ### laws_wrLong: function 6 -/
def laws_wrLong.l0 : Nat → Int → List Int → Int → Int → Option (ByteArray)
  | 0, _, _, _, _ => none
  | k + 1, x1, x5, x10, x11 => if x11 < x10 then (if 0 ≤ (Int.tmod (wrap64 ((wrap64 ((wrap64 (x11 + (wrap64 (Int.tdiv x11 7)))) + (wrap64 (Int.tdiv x11 257)))) + (wrap64 (x1)))) 36) then (if (Int.tmod (wrap64 ((wrap64 ((wrap64 (x11 + (wrap64 (Int.tdiv x11 7)))) + (wrap64 (Int.tdiv x11 257)))) + (wrap64 (x1)))) 36) < 36 then (if 0 ≤ x11 then (if x11 < (x5.length : Int) then (laws_wrLong.l0 k x1 (x5.set (x11 : Int).toNat (bt (⟨#[97, 98, 99, 100, 101, 102, 103, 104, 105, 106, 107, 108, 109, 110, 111, 112, 113, 114, 115, 116, 117, 118, 119, 120, 121, 122, 48, 49, 50, 51, 52, 53, 54, 55, 56, 57]⟩ : ByteArray) (Int.tmod (wrap64 ((wrap64 ((wrap64 (x11 + (wrap64 (Int.tdiv x11 7)))) + (wrap64 (Int.tdiv x11 257)))) + (wrap64 (x1)))) 36))) x10 (wrap64 (x11 + 1))) else (none)) else (none)) else (none)) else (none)) else (some (strOfNums x5))
def laws_wrLong.f (k : Nat) (a0 : Int) (a1 : Int) : Option (ByteArray) := if 0 ≤ a0 then (if (a0 : Int).toNat ≤ 281474976710656 then ((some (List.replicate (a0 : Int).toNat 0 : List Int)).bind fun y117 => (laws_wrLong.l0 k a1 y117 (y117.length : Int) 0)) else (none)) else (none)
theorem laws_wrLong.mono_l : ∀ k, (∀ y0 y1 y2 y3, LeO (laws_wrLong.l0 k y0 y1 y2 y3) (laws_wrLong.l0 (k + 1) y0 y1 y2 y3))
  | 0 => fun _ _ _ _ r h => by simp [laws_wrLong.l0] at h
  | k + 1 => by
    have ih0 := laws_wrLong.mono_l k
    · intro y0 y1 y2 y3
      unfold laws_wrLong.l0
      repeat' first
      | (with_reducible exact ih0 _ _ _ _)
      | (with_reducible exact LeO.refl _)
      | (with_reducible exact LeO.none _)
      | (with_reducible refine LeO.ite ?_ ?_)
      | (with_reducible refine LeO.bind ?_ (fun _ => ?_))
      | exact ih0 _ _ _ _
      | exact LeO.none _
      | refine LeO.ite ?_ ?_
      | refine LeO.bind ?_ (fun _ => ?_)
theorem laws_wrLong.mono : ∀ a0 a1 k, LeO (laws_wrLong.f k a0 a1) (laws_wrLong.f (k + 1) a0 a1) := by
  intro a0 a1 k
  have ih0 := laws_wrLong.mono_l k
  unfold laws_wrLong.f
  repeat' first
      | (with_reducible exact ih0 _ _ _ _)
      | (with_reducible exact LeO.refl _)
      | (with_reducible exact LeO.none _)
      | (with_reducible refine LeO.ite ?_ ?_)
      | (with_reducible refine LeO.bind ?_ (fun _ => ?_))
      | exact ih0 _ _ _ _
      | exact LeO.none _
      | refine LeO.ite ?_ ?_
      | refine LeO.bind ?_ (fun _ => ?_)
set_option maxHeartbeats 8000000 in
set_option maxRecDepth 100000 in
theorem laws_wrLong.calls (k : Nat) (a0 : Int) (a1 : Int) (r : ByteArray) (w : World) (h : laws_wrLong.f k a0 a1 = some r) :
    Calls Tryd.prog 6 #[.int .i64 a0, .int .u8 a1] w fun e w' => e = .returned (.string r) ∧ Below w.heap.size w w' := by
  have HB := Aside0.mk (Below.refl w.heap.size w)
  have H : (if 0 ≤ a0 then (if (a0 : Int).toNat ≤ 281474976710656 then ((some (List.replicate (a0 : Int).toNat 0 : List Int)).bind fun y117 => (laws_wrLong.l0 k a1 y117 (y117.length : Int) 0)) else (none)) else (none)) = some r := h
  clear h
  by_cases c3 : 0 ≤ a0
  · rw [if_pos c3] at H
    have c3b0 := eq_true c3
    have c3b1 : decide (0 ≤ a0) = true := decide_eq_true c3
    clear c3
    by_cases c4 : (a0 : Int).toNat ≤ 281474976710656
    · rw [if_pos c4] at H
      have c4b0 := eq_true c4
      have c4b1 : decide ((a0 : Int).toNat ≤ 281474976710656) = true := decide_eq_true c4
      clear c4
      obtain ⟨y117, hy117⟩ : ∃ y_ : List Int, y_ = (List.replicate (a0 : Int).toNat 0) := ⟨_, rfl⟩
      replace H : (laws_wrLong.l0 k a1 y117 (y117.length : Int) 0) = some r := by first | (rw [hy117]; with_reducible exact H) | (have H2_ := (Option.bind_some _ _).symm.trans H; rw [hy117]; with_reducible exact H2_) | (have H2_ := (Option.bind_some _ _).symm.trans H; with_reducible exact H2_) | with_reducible exact H | (rw [hy117]; exact H) | exact H
      have Ny117 := Aside0.mk hy117
      clear hy117
      have H' := Aside0.mk H
      clear H
      go_enter Tryd.func6, Tryd.ntmps6
      go_wp2_with (first | ((with_reducible refine gate_dst (N := 8) rfl ?_); refine Kd.R_make (Kd.int .u8) _ 5 rfl (N := 8) rfl 36 _ _ rfl a0 rfl rfl Tryd.underlying36 (.int .u8 0) 1 info5 rfl (by decide) (by omega) 0 (ok := fun _ => True) (okp := fun _ => True) rfl (fun _ hk => hk) trivial (of_decide_eq_true (by first | (with_reducible assumption) | assumption)) (Nat.le_trans (Nat.mul_le_mul_right _ (of_decide_eq_true (by first | (with_reducible assumption) | assumption) : a0.toNat ≤ 281474976710656)) (by omega)) (Below.refl _ _) (Nat.le_refl _) ?_; intro v118 w5 ho6 hb hg_ hnew_; clear hg_ hnew_; (first | rw [← Ny117.out] at ho6 | (simp only [Int.reduceToNat] at ho6; rw [← Ny117.out] at ho6)); have n0_ := Aside0.mk (Kd.R_lower ho6 (below_size (by repeat (first | (with_reducible first | exact HB.out | apply below_alloc | apply pw_below_drewN | apply below_drew1) | exact HB.out)))); have n1_ := Aside0.mk (below_step (by repeat (first | (with_reducible first | exact HB.out | apply below_alloc | apply pw_below_drewN | apply below_drew1) | exact HB.out)) hb); clear HB; have HO119 := n0_; have HB := n1_; clear n0_ n1_; clear hb ho6; obtain ⟨Ao7, co7, eo7⟩ := Kd.R_slice HO119.out; subst eo7))
      go_loopg [11] k (fun kq v11 w' => ∃ (x5_1 : List Int) (x11_1 : Int), v11 = .int .i64 x11_1 ∧ Aside0 (laws_wrLong.l0 kq a1 x5_1 (y117.length : Int) x11_1 = some r) ∧ Aside0 (kq ≤ k) ∧ Aside0 (Kd.R (Kd.int .u8) 5 w' w.heap.size (fun _ => True) (.slice Ao7 y117.length co7) x5_1) ∧ Aside0 (Below w.heap.size w w'))
      case atStart => exact ⟨(y117), (0), (by first | rfl | (simp; done) | (simp [*]; done)), H', ⟨Nat.le_refl _⟩, ⟨by (with_reducible repeat (first | apply Kd.R_alloc | apply Kd.R_drewN | apply Kd.R_drew)); exact HO119.out⟩, ⟨by repeat (first | (with_reducible first | exact HB.out | apply below_alloc | apply pw_below_drewN | apply below_drew1) | exact HB.out)⟩⟩
      case round =>
        clear H'
        try clear p2
        try clear c3
        try clear c3b0
        try clear c3b1
        try clear c4
        try clear c4b0
        try clear c4b1
        try clear c6
        obtain ⟨x5_1, x11_1, rfl, HA, HK1, HO_5, HB⟩ := hrel
        have hl5_1 := (Kd.R_reads' HO_5.out).1
        rw [hl5_1] at HO_5
        (try simp only [hl5_1])
        cases gk with
        | zero => exact absurd HA.out (by simp [laws_wrLong.l0])
        | succ k1 =>
          have H := HA.out
          clear HA
          simp only [laws_wrLong.l0] at H
          by_cases c8 : x11_1 < (y117.length : Int)
          · rw [if_pos c8] at H
            have c8b0 : decide (x11_1 < (y117.length : Int)) = true := decide_eq_true c8
            clear c8
            obtain ⟨ji9, hji9⟩ : ∃ j_ : Int, (Int.tmod (wrap64 ((wrap64 ((wrap64 (x11_1 + (wrap64 (Int.tdiv x11_1 7)))) + (wrap64 (Int.tdiv x11_1 257)))) + (wrap64 (a1)))) 36) = j_ := ⟨_, rfl⟩
            replace H : (if 0 ≤ (ji9) then (if (ji9) < 36 then (if 0 ≤ x11_1 then (if x11_1 < (x5_1.length : Int) then (laws_wrLong.l0 k1 a1 (x5_1.set (x11_1 : Int).toNat (bt (⟨#[97, 98, 99, 100, 101, 102, 103, 104, 105, 106, 107, 108, 109, 110, 111, 112, 113, 114, 115, 116, 117, 118, 119, 120, 121, 122, 48, 49, 50, 51, 52, 53, 54, 55, 56, 57]⟩ : ByteArray) (ji9))) (y117.length : Int) (wrap64 (x11_1 + 1))) else (none)) else (none)) else (none)) else (none)) = some r := by first | (rw [hji9] at H; exact H) | (simp only [hji9] at H ⊢; exact H)
            by_cases c10 : 0 ≤ (ji9)
            · rw [if_pos c10] at H
              have c10b0 : decide (0 ≤ (ji9)) = true := decide_eq_true c10
              clear c10
              by_cases c11 : (ji9) < 36
              · rw [if_pos c11] at H
                have c11b0 : decide ((ji9) < 36) = true := decide_eq_true c11
                clear c11
                by_cases c13 : 0 ≤ x11_1
                · rw [if_pos c13] at H
                  have c13b0 : decide (0 ≤ x11_1) = true := decide_eq_true c13
                  clear c13
                  by_cases c14 : x11_1 < (x5_1.length : Int)
                  · rw [if_pos c14] at H
                    have c14b0 : decide (x11_1 < (x5_1.length : Int)) = true := decide_eq_true c14
                    clear c14
                    obtain ⟨y120, hy120⟩ : ∃ y_ : List Int, y_ = (x5_1.set (x11_1 : Int).toNat (bt (⟨#[97, 98, 99, 100, 101, 102, 103, 104, 105, 106, 107, 108, 109, 110, 111, 112, 113, 114, 115, 116, 117, 118, 119, 120, 121, 122, 48, 49, 50, 51, 52, 53, 54, 55, 56, 57]⟩ : ByteArray) (ji9))) := ⟨_, rfl⟩
                    replace H : (laws_wrLong.l0 k1 a1 y120 (y117.length : Int) (wrap64 (x11_1 + 1))) = some r := by first | (rw [hy120]; with_reducible exact H) | (have H2_ := (Option.bind_some _ _).symm.trans H; rw [hy120]; with_reducible exact H2_) | (have H2_ := (Option.bind_some _ _).symm.trans H; with_reducible exact H2_) | with_reducible exact H | (rw [hy120]; exact H) | exact H
                    have Ny120 := Aside0.mk hy120
                    clear hy120
                    have H' := Aside0.mk H
                    clear H
                    have p12 : 0 ≤ ((ji9) : Int) := of_decide_eq_true (by first | (with_reducible assumption) | assumption)
                    have q12 : (ji9) < (36 : Int) := of_decide_eq_true (by first | (with_reducible assumption) | assumption)
                    have hx12 := bt_at (⟨#[97, 98, 99, 100, 101, 102, 103, 104, 105, 106, 107, 108, 109, 110, 111, 112, 113, 114, 115, 116, 117, 118, 119, 120, 121, 122, 48, 49, 50, 51, 52, 53, 54, 55, 56, 57]⟩ : ByteArray) (ji9)
                    replace p12 := eq_true p12
                    replace q12 := eq_true q12
                    have p15 : 0 ≤ (x11_1 : Int) := of_decide_eq_true (by first | (with_reducible assumption) | assumption)
                    have q15 : (x11_1 : Int) < ((x5_1.length : Int) : Int) := of_decide_eq_true (by first | (with_reducible assumption) | assumption)
                    obtain ⟨go15, co15, eo15, gb15, gl15, cl15, HG15⟩ := Kd.R_form HO_5.out (by omega)
                    (first | cases eo15 | (injection eo15 with ea_ en_ ec_; (first | subst ea_ | (injection ea_ with ea_; subst ea_)); subst ec_; clear en_))
                    have GB15 := Aside0.mk gb15
                    have GG15 := Aside0.mk HG15
                    clear gb15 gl15 HG15
                    obtain ⟨hx15_0, hf15_0⟩ := Kd.R_celln 0 HO_5.out (x11_1 : Int) p15 q15
                    replace p15 := eq_true p15
                    replace q15 := eq_true q15
                    have HP16 := Kd.R_putg HO_5.out (x11_1 : Int) (bt (⟨#[97, 98, 99, 100, 101, 102, 103, 104, 105, 106, 107, 108, 109, 110, 111, 112, 113, 114, 115, 116, 117, 118, 119, 120, 121, 122, 48, 49, 50, 51, 52, 53, 54, 55, 56, 57]⟩ : ByteArray) (ji9))
                    go_wp2_with (first | ((with_reducible refine gate_store (t := 5) (p := 28) rfl ?_); refine store_event (t := 5) (p := 28) (v := ?vo_w17) (w1 := (wr.setCell ⟨go15, (x11_1 : Int).toNat, none⟩ (.int .u8 (bt (⟨#[97, 98, 99, 100, 101, 102, 103, 104, 105, 106, 107, 108, 109, 110, 111, 112, 113, 114, 115, 116, 117, 118, 119, 120, 121, 122, 48, 49, 50, 51, 52, 53, 54, 55, 56, 57]⟩ : ByteArray) (ji9))))) ?hg ?ho ?hn ?hr ?_; (case ho => rfl); (case hg => rfl); (case hn => rfl); (case hr => first | (go_simp; done) | (go_simp; rfl)); intro w17 hw; have hg : wr.grownBy w17 (some go15) := (by rw [hw]; exact HP16.2); have hp_ : Kd.R (Kd.int .u8) 5 w17 w.heap.size (fun _ => True) (.slice (some ⟨go15, 0, none⟩) x5_1.length co7) y120 := (by rw [hw, Ny120.out]; exact HP16.1); clear HP16; have n0_ := Aside0.mk (hp_); have n1_ := Aside0.mk ((by rw [hw]; exact below_set (HB.out) GB15.out : Below w.heap.size w w17)); clear HO_5; clear HB; have HO_5 := n0_; have HB := n1_; clear n0_ n1_; clear hg hw hp_))
                    (try simp only [← hl5_1])
                    go_roundg k1
                    case measure => have := HK1.out; omega
                    case rel => exact ⟨(y120), (wrap64 (x11_1 + 1)), (by first | rfl | (simp; done) | (simp [*]; done)), H', ⟨by have := HK1.out; omega⟩, ⟨by (try simp only [hl5_1]); (with_reducible repeat (first | apply Kd.R_alloc | apply Kd.R_drewN | apply Kd.R_drew)); exact HO_5.out⟩, ⟨by repeat (first | (with_reducible first | exact HB.out | apply below_alloc | apply pw_below_drewN | apply below_drew1) | exact HB.out)⟩⟩
                  · rw [if_neg c14] at H
                    exact absurd H (by simp)
                · rw [if_neg c13] at H
                  exact absurd H (by simp)
              · rw [if_neg c11] at H
                exact absurd H (by simp)
            · rw [if_neg c10] at H
              exact absurd H (by simp)
          · rw [if_neg c8] at H
            have c8b0 : decide (x11_1 < (y117.length : Int)) = false := decide_eq_false c8
            have c8bL : decide (x11_1 < (x5_1.length : Int)) = false := by rw [← hl5_1]; exact c8b0
            clear c8
            obtain rfl := Option.some.inj H
            have hcv18 := own_string (P := Tryd.prog) Tryd.underlying36 Tryd.underlying5 Tryd.underlying9 (Kd.own_of_R HO_5.out)
            go_wp2
            go_ret
            exact ⟨by first | rfl | (simp [errW_none, errW_some] <;> rfl) | (simp [*, errW_none, errW_some] <;> rfl), by repeat (first | (with_reducible first | exact HB.out | apply below_alloc | apply pw_below_drewN | apply below_drew1) | exact HB.out)⟩
    · rw [if_neg c4] at H
      exact absurd H (by simp)
  · rw [if_neg c3] at H
    exact absurd H (by simp)

/-! ### laws_wrChunks: function 8 -/
def laws_wrChunks.l0 : Nat → ByteArray → List Int → List ByteArray → Int → Option (List ByteArray)
  | 0, _, _, _, _ => none
  | k + 1, x0, x1, x5, x6 => if x0.toList = ([] : List UInt8) then (some x5) else (if (x1.length : Int) > 0 then (if x6 < 4096 then (if (x1.length : Int) = 0 then (none) else (if 0 ≤ (Int.tmod x6 (x1.length : Int)) then (if (Int.tmod x6 (x1.length : Int)) < (x1.length : Int) then (if 0 ≤ (mn (x0.size : Int) (wrap64 ((wrap64 (rd x1 (Int.tmod x6 (x1.length : Int)))) + 1))) then (if (mn (x0.size : Int) (wrap64 ((wrap64 (rd x1 (Int.tmod x6 (x1.length : Int)))) + 1))) ≤ (x0.size : Int) then (if x5.length < 8796093022208 then (laws_wrChunks.l0 k (x0.extract ((mn (x0.size : Int) (wrap64 ((wrap64 (rd x1 (Int.tmod x6 (x1.length : Int)))) + 1))) : Int).toNat x0.size) x1 (x5 ++ [x0.extract 0 ((mn (x0.size : Int) (wrap64 ((wrap64 (rd x1 (Int.tmod x6 (x1.length : Int)))) + 1))) : Int).toNat]) (wrap64 (x6 + 1))) else (none)) else (none)) else (none)) else (none)) else (none))) else (if 0 ≤ (x0.size : Int) then (if (x0.size : Int) ≤ (x0.size : Int) then (if x5.length < 8796093022208 then (laws_wrChunks.l0 k (x0.extract ((x0.size : Int) : Int).toNat x0.size) x1 (x5 ++ [x0.extract 0 ((x0.size : Int) : Int).toNat]) (wrap64 (x6 + 1))) else (none)) else (none)) else (none))) else (if 0 ≤ (x0.size : Int) then (if (x0.size : Int) ≤ (x0.size : Int) then (if x5.length < 8796093022208 then (laws_wrChunks.l0 k (x0.extract ((x0.size : Int) : Int).toNat x0.size) x1 (x5 ++ [x0.extract 0 ((x0.size : Int) : Int).toNat]) (wrap64 (x6 + 1))) else (none)) else (none)) else (none)))
def laws_wrChunks.f (k : Nat) (a0 : ByteArray) (l1 : List Int) : Option (List ByteArray) := laws_wrChunks.l0 k a0 l1 ([] : List ByteArray) 0
theorem laws_wrChunks.mono_l : ∀ k, (∀ y0 y1 y2 y3, LeO (laws_wrChunks.l0 k y0 y1 y2 y3) (laws_wrChunks.l0 (k + 1) y0 y1 y2 y3))
  | 0 => fun _ _ _ _ r h => by simp [laws_wrChunks.l0] at h
  | k + 1 => by
    have ih0 := laws_wrChunks.mono_l k
    · intro y0 y1 y2 y3
      unfold laws_wrChunks.l0
      repeat' first
      | (with_reducible exact ih0 _ _ _ _)
      | (with_reducible exact LeO.refl _)
      | (with_reducible exact LeO.none _)
      | (with_reducible refine LeO.ite ?_ ?_)
      | (with_reducible refine LeO.bind ?_ (fun _ => ?_))
      | exact ih0 _ _ _ _
      | exact LeO.none _
      | refine LeO.ite ?_ ?_
      | refine LeO.bind ?_ (fun _ => ?_)
theorem laws_wrChunks.mono : ∀ a0 a1 k, LeO (laws_wrChunks.f k a0 a1) (laws_wrChunks.f (k + 1) a0 a1) := by
  intro a0 a1 k
  have ih0 := laws_wrChunks.mono_l k
  unfold laws_wrChunks.f
  repeat' first
      | (with_reducible exact ih0 _ _ _ _)
      | (with_reducible exact LeO.refl _)
      | (with_reducible exact LeO.none _)
      | (with_reducible refine LeO.ite ?_ ?_)
      | (with_reducible refine LeO.bind ?_ (fun _ => ?_))
      | exact ih0 _ _ _ _
      | exact LeO.none _
      | refine LeO.ite ?_ ?_
      | refine LeO.bind ?_ (fun _ => ?_)
set_option maxHeartbeats 8000000 in
set_option maxRecDepth 100000 in
theorem laws_wrChunks.calls (k : Nat) (a0 : ByteArray) (A1 : Option Addr) (c1 : Nat) (l1 : List Int) (r : List ByteArray) (w : World) (hr1 : Kd.C (Kd.int .u16) w A1 l1.length l1) (hc1 : l1.length ≤ c1) (h : laws_wrChunks.f k a0 l1 = some r) :
    Calls Tryd.prog 8 #[.string a0, .slice A1 l1.length c1] w fun e w' => ∃ v0_ : Value, e = .returned (v0_) ∧ Kd.R Kd.string 9 w' w.heap.size (fun _ => True) v0_ r ∧ Below w.heap.size w w' := by
  have HR1 := Aside0.mk hr1
  have HC1 := Aside0.mk hc1
  clear hr1 hc1
  have HB := Aside0.mk (Below.refl w.heap.size w)
  have H : (laws_wrChunks.l0 k a0 l1 ([] : List ByteArray) 0) = some r := h
  clear h
  have H' := Aside0.mk H
  clear H
  go_enter Tryd.func8, Tryd.ntmps8
  go_wp2
  go_loopg [0, 5, 6] k (fun kq v0 v5 v6 w' => ∃ (x0_1 : ByteArray) (x5_1 : List ByteArray) (x6_1 : Int), v0 = .string x0_1 ∧ v6 = .int .i64 x6_1 ∧ Aside0 (laws_wrChunks.l0 kq x0_1 l1 x5_1 x6_1 = some r) ∧ Aside0 (kq ≤ k) ∧ Aside0 (Kd.R Kd.string 9 w' w.heap.size (fun _ => True) v5 x5_1) ∧ Aside0 (Below w.heap.size w w'))
  case atStart => exact ⟨(a0), (([] : List ByteArray)), (0), (by first | rfl | (simp; done) | (simp [*]; done)), (by first | rfl | (simp; done) | (simp [*]; done)), H', ⟨Nat.le_refl _⟩, ⟨by first | exact Kd.R_nil _ _ _ _ _ | exact Kd.N_nil _ _ _ _ _ | exact Kd.V_nil _ _ _ _ _ | exact Kd.Q_nil _ _ _ _ _ | exact Kd.S_nil _ _ _ _ _⟩, ⟨by repeat (first | (with_reducible first | exact HB.out | apply below_alloc | apply pw_below_drewN | apply below_drew1) | exact HB.out)⟩⟩
  case round =>
    clear H'
    try clear c1
    try clear p2
    obtain ⟨x0_1, x5_1, x6_1, rfl, rfl, HA, HK1, HO_5, HB⟩ := hrel
    cases gk with
    | zero => exact absurd HA.out (by simp [laws_wrChunks.l0])
    | succ k1 =>
      have H := HA.out
      clear HA
      simp only [laws_wrChunks.l0] at H
      by_cases c3 : x0_1.toList = ([] : List UInt8)
      · rw [if_pos c3] at H
        have c3b0 : (x0_1.toList == ([] : List UInt8)) = true := beq_iff_eq.mpr c3
        have c3b1 : (x0_1.toList != ([] : List UInt8)) = false := bne_eq_false_iff_eq.mpr c3
        clear c3
        obtain rfl := Option.some.inj H
        go_wp2
        go_ret
        exact ⟨_, by first | rfl | (simp [errW_none, errW_some] <;> rfl) | (simp [*, errW_none, errW_some] <;> rfl), by (with_reducible repeat (first | apply Kd.R_alloc | apply Kd.R_drewN | apply Kd.R_drew)); exact HO_5.out, by repeat (first | (with_reducible first | exact HB.out | apply below_alloc | apply pw_below_drewN | apply below_drew1) | exact HB.out)⟩
      · rw [if_neg c3] at H
        have c3b0 : (x0_1.toList == ([] : List UInt8)) = false := beq_eq_false_iff_ne.mpr c3
        have c3b1 : (x0_1.toList != ([] : List UInt8)) = true := bne_iff_ne.mpr c3
        by_cases c4 : (l1.length : Int) > 0
        · rw [if_pos c4] at H
          have c4b0 : decide (0 < (l1.length : Int)) = true := decide_eq_true c4
          have c4b1 : decide (0 < l1.length) = true := decide_eq_true (by omega)
          clear c4
          by_cases c5 : x6_1 < 4096
          · rw [if_pos c5] at H
            have c5b0 : decide (x6_1 < 4096) = true := decide_eq_true c5
            clear c5
            by_cases c6 : (l1.length : Int) = 0
            · rw [if_pos c6] at H
              exact absurd H (by simp)
            · rw [if_neg c6] at H
              have c6b0 : ((l1.length : Int) == 0) = false := beq_eq_false_iff_ne.mpr c6
              have c6b1 : ((l1.length : Int) != 0) = true := bne_iff_ne.mpr c6
              have c6b2 : ¬ (l1 = []) := fun h_ => c6 (by rw [h_]; rfl)
              obtain ⟨ji7, hji7⟩ : ∃ j_ : Int, (Int.tmod x6_1 (l1.length : Int)) = j_ := ⟨_, rfl⟩
              replace H : (if 0 ≤ (ji7) then (if (ji7) < (l1.length : Int) then (if 0 ≤ (mn (x0_1.size : Int) (wrap64 ((wrap64 (rd l1 (ji7))) + 1))) then (if (mn (x0_1.size : Int) (wrap64 ((wrap64 (rd l1 (ji7))) + 1))) ≤ (x0_1.size : Int) then (if x5_1.length < 8796093022208 then (laws_wrChunks.l0 k1 (x0_1.extract ((mn (x0_1.size : Int) (wrap64 ((wrap64 (rd l1 (ji7))) + 1))) : Int).toNat x0_1.size) l1 (x5_1 ++ [x0_1.extract 0 ((mn (x0_1.size : Int) (wrap64 ((wrap64 (rd l1 (ji7))) + 1))) : Int).toNat]) (wrap64 (x6_1 + 1))) else (none)) else (none)) else (none)) else (none)) else (none)) = some r := by first | (rw [hji7] at H; exact H) | (simp only [hji7] at H ⊢; exact H)
              by_cases c8 : 0 ≤ (ji7)
              · rw [if_pos c8] at H
                have c8b0 : decide (0 ≤ (ji7)) = true := decide_eq_true c8
                clear c8
                by_cases c9 : (ji7) < (l1.length : Int)
                · rw [if_pos c9] at H
                  have c9b0 : decide ((ji7) < (l1.length : Int)) = true := decide_eq_true c9
                  clear c9
                  obtain ⟨ji10, hji10⟩ : ∃ j_ : Int, (mn (x0_1.size : Int) (wrap64 ((wrap64 (rd l1 (ji7))) + 1))) = j_ := ⟨_, rfl⟩
                  replace H : (if 0 ≤ (ji10) then (if (ji10) ≤ (x0_1.size : Int) then (if x5_1.length < 8796093022208 then (laws_wrChunks.l0 k1 (x0_1.extract ((ji10) : Int).toNat x0_1.size) l1 (x5_1 ++ [x0_1.extract 0 ((ji10) : Int).toNat]) (wrap64 (x6_1 + 1))) else (none)) else (none)) else (none)) = some r := by first | (rw [hji10] at H; exact H) | (simp only [hji10] at H ⊢; exact H)
                  have hji10_ : (if (wrap64 ((wrap64 (rd l1 (ji7))) + 1)) < (x0_1.size : Int) then (wrap64 ((wrap64 (rd l1 (ji7))) + 1)) else (x0_1.size : Int)) = ji10 := hji10
                  by_cases c11 : 0 ≤ (ji10)
                  · rw [if_pos c11] at H
                    have c11b0 := eq_true c11
                    have c11b1 : decide (0 ≤ (ji10)) = true := decide_eq_true c11
                    clear c11
                    by_cases c12 : (ji10) ≤ (x0_1.size : Int)
                    · rw [if_pos c12] at H
                      have c12b0 := eq_true c12
                      have c12b1 : decide ((ji10) ≤ (x0_1.size : Int)) = true := decide_eq_true c12
                      clear c12
                      by_cases c13 : x5_1.length < 8796093022208
                      · rw [if_pos c13] at H
                        have LMc13 := Aside0.mk c13
                        clear c13
                        obtain ⟨y122, hy122⟩ : ∃ y_ : List ByteArray, y_ = (x5_1 ++ [x0_1.extract 0 ((ji10) : Int).toNat]) := ⟨_, rfl⟩
                        replace H : (laws_wrChunks.l0 k1 (x0_1.extract ((ji10) : Int).toNat x0_1.size) l1 y122 (wrap64 (x6_1 + 1))) = some r := by first | (rw [hy122]; with_reducible exact H) | (have H2_ := (Option.bind_some _ _).symm.trans H; rw [hy122]; with_reducible exact H2_) | (have H2_ := (Option.bind_some _ _).symm.trans H; with_reducible exact H2_) | with_reducible exact H | (rw [hy122]; exact H) | exact H
                        have Ny122 := Aside0.mk hy122
                        clear hy122
                        have c14b0 := eq_true (of_decide_eq_true (by first | (with_reducible assumption) | assumption) : 0 ≤ (ji10))
                        have c15b0 := eq_true (of_decide_eq_true (by first | (with_reducible assumption) | assumption) : (ji10) ≤ (x0_1.size : Int))
                        have H' := Aside0.mk H
                        clear H
                        have p121 : 0 ≤ ((ji7) : Int) := of_decide_eq_true (by first | (with_reducible assumption) | assumption)
                        have q121 : (ji7) < (l1.length : Int) := of_decide_eq_true (by first | (with_reducible assumption) | assumption)
                        obtain ⟨ad121, e121, hx121_0⟩ := Kd.at_int HR1.out (ji7) p121 q121
                        cases e121
                        replace hx121_0 := (HB.out.cell (World.block_lt_of_cell? w _ hx121_0)).trans hx121_0
                        replace p121 := eq_true p121
                        replace q121 := eq_true q121
                        go_wp2_with (first | ((with_reducible refine gate_builtin (b := .append) (xs := #[.tmp 32, .tmp 36]) rfl ?_); at_builtin; refine Kd.R_append Kd.string (w0 := w) w.heap.size rfl (.tmp 32) (.tmp 36) 27 9 (.string ⟨#[]⟩) 16 rfl Tryd.underlying27 info9 rfl (by decide) (by omega) u5 x5_1 (x0_1.extract 0 ((ji10) : Int).toNat) [.string (x0_1.extract 0 ((ji10) : Int).toNat)] (fun _ => True) (fun _ => False) rfl rfl ?aP (fun _ hk => hk.elim) ?aF ?aO ?aB ?aS ?aL ?_; (case aP => exact rfl); (case aB => exact (by repeat (first | (with_reducible first | exact HB.out | apply below_alloc | apply pw_below_drewN | apply below_drew1) | exact HB.out))); (case aF => exact (fun _ _ => trivial)); (case aO => exact (by (with_reducible repeat (first | apply Kd.R_alloc | apply Kd.R_drewN | apply Kd.R_drew)); exact HO_5.out)); (case aS => exact (below_size (by repeat (first | (with_reducible first | exact HB.out | apply below_alloc | apply pw_below_drewN | apply below_drew1) | exact HB.out)))); (case aL => have := LMc13.out; omega); intro v123 w16 ho hb hg hat; rw [← Ny122.out] at ho; have n0_ := Aside0.mk (hb); have n1_ := Aside0.mk (ho); clear HB; clear HO_5; have HB := n0_; have HO124 := n1_; clear n0_ n1_; clear ho hb hg hat))
                        go_roundg k1
                        case measure => have := HK1.out; omega
                        case rel => exact ⟨(x0_1.extract ((ji10) : Int).toNat x0_1.size), (y122), (wrap64 (x6_1 + 1)), (by first | rfl | (simp; done) | (simp only [← hji10] <;> (first | rfl | simp)) | (simp [*]; done)), (by first | rfl | (simp; done) | (simp [*]; done)), H', ⟨by have := HK1.out; omega⟩, ⟨by (with_reducible repeat (first | apply Kd.R_alloc | apply Kd.R_drewN | apply Kd.R_drew)); exact HO124.out⟩, ⟨by repeat (first | (with_reducible first | exact HB.out | apply below_alloc | apply pw_below_drewN | apply below_drew1) | exact HB.out)⟩⟩
                      · rw [if_neg c13] at H
                        exact absurd H (by simp)
                    · rw [if_neg c12] at H
                      exact absurd H (by simp)
                  · rw [if_neg c11] at H
                    exact absurd H (by simp)
                · rw [if_neg c9] at H
                  exact absurd H (by simp)
              · rw [if_neg c8] at H
                exact absurd H (by simp)
          · rw [if_neg c5] at H
            have c5b0 : decide (x6_1 < 4096) = false := decide_eq_false c5
            clear c5
            by_cases c17 : 0 ≤ (x0_1.size : Int)
            · rw [if_pos c17] at H
              have c17b0 := eq_true c17
              have c17b1 : decide (0 ≤ (x0_1.size : Int)) = true := decide_eq_true c17
              clear c17
              by_cases c18 : (x0_1.size : Int) ≤ (x0_1.size : Int)
              · rw [if_pos c18] at H
                have c18b0 := eq_true c18
                have c18b1 : decide ((x0_1.size : Int) ≤ (x0_1.size : Int)) = true := decide_eq_true c18
                clear c18
                by_cases c19 : x5_1.length < 8796093022208
                · rw [if_pos c19] at H
                  have LMc19 := Aside0.mk c19
                  clear c19
                  obtain ⟨y125, hy125⟩ : ∃ y_ : List ByteArray, y_ = (x5_1 ++ [x0_1.extract 0 ((x0_1.size : Int) : Int).toNat]) := ⟨_, rfl⟩
                  replace H : (laws_wrChunks.l0 k1 (x0_1.extract ((x0_1.size : Int) : Int).toNat x0_1.size) l1 y125 (wrap64 (x6_1 + 1))) = some r := by first | (rw [hy125]; with_reducible exact H) | (have H2_ := (Option.bind_some _ _).symm.trans H; rw [hy125]; with_reducible exact H2_) | (have H2_ := (Option.bind_some _ _).symm.trans H; with_reducible exact H2_) | with_reducible exact H | (rw [hy125]; exact H) | exact H
                  have Ny125 := Aside0.mk (show y125 = x5_1 ++ [x0_1] by rw [hy125, Int.toNat_natCast, ByteArray.extract_zero_size])
                  clear hy125
                  have c20b0 := eq_true (of_decide_eq_true (by first | (with_reducible assumption) | assumption) : 0 ≤ (x0_1.size : Int))
                  have c21b0 := eq_true (of_decide_eq_true (by first | (with_reducible assumption) | assumption) : (x0_1.size : Int) ≤ (x0_1.size : Int))
                  have H' := Aside0.mk H
                  clear H
                  go_wp2_with (first | ((with_reducible refine gate_builtin (b := .append) (xs := #[.tmp 32, .tmp 36]) rfl ?_); at_builtin; refine Kd.R_append Kd.string (w0 := w) w.heap.size rfl (.tmp 32) (.tmp 36) 27 9 (.string ⟨#[]⟩) 16 rfl Tryd.underlying27 info9 rfl (by decide) (by omega) u5 x5_1 x0_1 [.string x0_1] (fun _ => True) (fun _ => False) rfl rfl ?aP (fun _ hk => hk.elim) ?aF ?aO ?aB ?aS ?aL ?_; (case aP => exact rfl); (case aB => exact (by repeat (first | (with_reducible first | exact HB.out | apply below_alloc | apply pw_below_drewN | apply below_drew1) | exact HB.out))); (case aF => exact (fun _ _ => trivial)); (case aO => exact (by (with_reducible repeat (first | apply Kd.R_alloc | apply Kd.R_drewN | apply Kd.R_drew)); exact HO_5.out)); (case aS => exact (below_size (by repeat (first | (with_reducible first | exact HB.out | apply below_alloc | apply pw_below_drewN | apply below_drew1) | exact HB.out)))); (case aL => have := LMc19.out; omega); intro v126 w22 ho hb hg hat; rw [← Ny125.out] at ho; have n0_ := Aside0.mk (hb); have n1_ := Aside0.mk (ho); clear HB; clear HO_5; have HB := n0_; have HO127 := n1_; clear n0_ n1_; clear ho hb hg hat))
                  go_roundg k1
                  case measure => have := HK1.out; omega
                  case rel => exact ⟨(x0_1.extract ((x0_1.size : Int) : Int).toNat x0_1.size), (y125), (wrap64 (x6_1 + 1)), (by first | rfl | (simp; done) | (simp [*]; done)), (by first | rfl | (simp; done) | (simp [*]; done)), H', ⟨by have := HK1.out; omega⟩, ⟨by (with_reducible repeat (first | apply Kd.R_alloc | apply Kd.R_drewN | apply Kd.R_drew)); exact HO127.out⟩, ⟨by repeat (first | (with_reducible first | exact HB.out | apply below_alloc | apply pw_below_drewN | apply below_drew1) | exact HB.out)⟩⟩
                · rw [if_neg c19] at H
                  exact absurd H (by simp)
              · rw [if_neg c18] at H
                exact absurd H (by simp)
            · rw [if_neg c17] at H
              exact absurd H (by simp)
        · rw [if_neg c4] at H
          have c4b0 : decide (0 < (l1.length : Int)) = false := decide_eq_false c4
          have c4b1 : decide (0 < l1.length) = false := decide_eq_false (by omega)
          clear c4
          by_cases c23 : 0 ≤ (x0_1.size : Int)
          · rw [if_pos c23] at H
            have c23b0 := eq_true c23
            have c23b1 : decide (0 ≤ (x0_1.size : Int)) = true := decide_eq_true c23
            clear c23
            by_cases c24 : (x0_1.size : Int) ≤ (x0_1.size : Int)
            · rw [if_pos c24] at H
              have c24b0 := eq_true c24
              have c24b1 : decide ((x0_1.size : Int) ≤ (x0_1.size : Int)) = true := decide_eq_true c24
              clear c24
              by_cases c25 : x5_1.length < 8796093022208
              · rw [if_pos c25] at H
                have LMc25 := Aside0.mk c25
                clear c25
                obtain ⟨y128, hy128⟩ : ∃ y_ : List ByteArray, y_ = (x5_1 ++ [x0_1.extract 0 ((x0_1.size : Int) : Int).toNat]) := ⟨_, rfl⟩
                replace H : (laws_wrChunks.l0 k1 (x0_1.extract ((x0_1.size : Int) : Int).toNat x0_1.size) l1 y128 (wrap64 (x6_1 + 1))) = some r := by first | (rw [hy128]; with_reducible exact H) | (have H2_ := (Option.bind_some _ _).symm.trans H; rw [hy128]; with_reducible exact H2_) | (have H2_ := (Option.bind_some _ _).symm.trans H; with_reducible exact H2_) | with_reducible exact H | (rw [hy128]; exact H) | exact H
                have Ny128 := Aside0.mk (show y128 = x5_1 ++ [x0_1] by rw [hy128, Int.toNat_natCast, ByteArray.extract_zero_size])
                clear hy128
                have c26b0 := eq_true (of_decide_eq_true (by first | (with_reducible assumption) | assumption) : 0 ≤ (x0_1.size : Int))
                have c27b0 := eq_true (of_decide_eq_true (by first | (with_reducible assumption) | assumption) : (x0_1.size : Int) ≤ (x0_1.size : Int))
                have H' := Aside0.mk H
                clear H
                go_wp2_with (first | ((with_reducible refine gate_builtin (b := .append) (xs := #[.tmp 32, .tmp 36]) rfl ?_); at_builtin; refine Kd.R_append Kd.string (w0 := w) w.heap.size rfl (.tmp 32) (.tmp 36) 27 9 (.string ⟨#[]⟩) 16 rfl Tryd.underlying27 info9 rfl (by decide) (by omega) u5 x5_1 x0_1 [.string x0_1] (fun _ => True) (fun _ => False) rfl rfl ?aP (fun _ hk => hk.elim) ?aF ?aO ?aB ?aS ?aL ?_; (case aP => exact rfl); (case aB => exact (by repeat (first | (with_reducible first | exact HB.out | apply below_alloc | apply pw_below_drewN | apply below_drew1) | exact HB.out))); (case aF => exact (fun _ _ => trivial)); (case aO => exact (by (with_reducible repeat (first | apply Kd.R_alloc | apply Kd.R_drewN | apply Kd.R_drew)); exact HO_5.out)); (case aS => exact (below_size (by repeat (first | (with_reducible first | exact HB.out | apply below_alloc | apply pw_below_drewN | apply below_drew1) | exact HB.out)))); (case aL => have := LMc25.out; omega); intro v129 w28 ho hb hg hat; rw [← Ny128.out] at ho; have n0_ := Aside0.mk (hb); have n1_ := Aside0.mk (ho); clear HB; clear HO_5; have HB := n0_; have HO130 := n1_; clear n0_ n1_; clear ho hb hg hat))
                go_roundg k1
                case measure => have := HK1.out; omega
                case rel => exact ⟨(x0_1.extract ((x0_1.size : Int) : Int).toNat x0_1.size), (y128), (wrap64 (x6_1 + 1)), (by first | rfl | (simp; done) | (simp [*]; done)), (by first | rfl | (simp; done) | (simp [*]; done)), H', ⟨by have := HK1.out; omega⟩, ⟨by (with_reducible repeat (first | apply Kd.R_alloc | apply Kd.R_drewN | apply Kd.R_drew)); exact HO130.out⟩, ⟨by repeat (first | (with_reducible first | exact HB.out | apply below_alloc | apply pw_below_drewN | apply below_drew1) | exact HB.out)⟩⟩
              · rw [if_neg c25] at H
                exact absurd H (by simp)
            · rw [if_neg c24] at H
              exact absurd H (by simp)
          · rw [if_neg c23] at H
            exact absurd H (by simp)

end Go.Proofs.YtdooimdefmegaaaDoor.PWf

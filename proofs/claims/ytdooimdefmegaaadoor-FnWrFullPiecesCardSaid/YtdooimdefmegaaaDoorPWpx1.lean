-- Written by a program of this session (wip/tools/myprint.py) for this claim.
import Derived.Test.YtdooimdefmegaaaDoorPWpx0
namespace Go.Proofs.YtdooimdefmegaaaDoor.PWp
open Go.RowKit Go.Proofs.YtdooimdefmegaaaDoorW.PrintWords Go.Proofs.YtdooimdefmegaaaDoorW.PrintLast Go.Proofs.YtdooimdefmegaaaDoorW.PrintMore
attribute [local go_sem] max2_int min2_int max_two min_two max_three min_three max_four min_four   -- for this text's walks alone
set_option linter.unusedVariables false
set_option linter.unusedSimpArgs false

/-! ### laws_zzFits5: function 9 -/
def laws_zzFits5.l0 : Nat → List ByteArray → Int → Int → Option (Bool)
  | 0, _, _, _ => none
  | k + 1, x8, x9, x10 => if x10 < x9 then (if 0 ≤ x10 then (if x10 < (x8.length : Int) then (if ((rdOf ByteArray.empty x8 x10).size : Int) > 2147483647 then (some false) else (laws_zzFits5.l0 k x8 x9 (wrap64 (x10 + 1)))) else (none)) else (none)) else (some true)
def laws_zzFits5.f (k : Nat) (l0 : List ByteArray) : Option (Bool) := if (l0.length : Int) > 2147483647 then (some false) else (laws_zzFits5.l0 k l0 (l0.length : Int) 0)
theorem laws_zzFits5.mono_l : ∀ k, (∀ y0 y1 y2, LeO (laws_zzFits5.l0 k y0 y1 y2) (laws_zzFits5.l0 (k + 1) y0 y1 y2))
  | 0 => fun _ _ _ r h => by simp [laws_zzFits5.l0] at h
  | k + 1 => by
    have ih0 := laws_zzFits5.mono_l k
    · intro y0 y1 y2
      unfold laws_zzFits5.l0
      repeat' first
      | (with_reducible exact ih0 _ _ _)
      | (with_reducible exact LeO.refl _)
      | (with_reducible exact LeO.none _)
      | (with_reducible refine LeO.ite ?_ ?_)
      | (with_reducible refine LeO.bind ?_ (fun _ => ?_))
      | exact ih0 _ _ _
      | exact LeO.none _
      | refine LeO.ite ?_ ?_
      | refine LeO.bind ?_ (fun _ => ?_)
theorem laws_zzFits5.mono : ∀ a0 k, LeO (laws_zzFits5.f k a0) (laws_zzFits5.f (k + 1) a0) := by
  intro a0 k
  have ih0 := laws_zzFits5.mono_l k
  unfold laws_zzFits5.f
  repeat' first
      | (with_reducible exact ih0 _ _ _)
      | (with_reducible exact LeO.refl _)
      | (with_reducible exact LeO.none _)
      | (with_reducible refine LeO.ite ?_ ?_)
      | (with_reducible refine LeO.bind ?_ (fun _ => ?_))
      | exact ih0 _ _ _
      | exact LeO.none _
      | refine LeO.ite ?_ ?_
      | refine LeO.bind ?_ (fun _ => ?_)
set_option maxHeartbeats 8000000 in
set_option maxRecDepth 100000 in
theorem laws_zzFits5.calls (k : Nat) (A0 : Option Addr) (c0 : Nat) (l0 : List ByteArray) (r : Bool) (w : World) (hr0 : Kd.C Kd.string w A0 l0.length l0) (hc0 : l0.length ≤ c0) (h : laws_zzFits5.f k l0 = some r) :
    Calls Tryd.prog 9 #[.slice A0 l0.length c0] w fun e w' => e = .returned (.bool r) ∧ Drawn0 w w' := by
  have HR0 := Aside0.mk hr0
  have HC0 := Aside0.mk hc0
  clear hr0 hc0
  have H : (if (l0.length : Int) > 2147483647 then (some false) else (laws_zzFits5.l0 k l0 (l0.length : Int) 0)) = some r := h
  clear h
  by_cases c2 : (l0.length : Int) > 2147483647
  · rw [if_pos c2] at H
    have c2b0 : decide (2147483647 < (l0.length : Int)) = true := decide_eq_true c2
    have c2b1 : decide (2147483647 < l0.length) = true := decide_eq_true (by omega)
    clear c2
    obtain rfl := Option.some.inj H
    go_enter Tryd.func9, Tryd.ntmps9
    go_wp2
    go_ret
    exact ⟨by first | rfl | (simp; done) | (simp [*]; done), by repeat (first | exact Drawn0.refl _ | apply Drawn0.step)⟩
  · rw [if_neg c2] at H
    have c2b0 : decide (2147483647 < (l0.length : Int)) = false := decide_eq_false c2
    have c2b1 : decide (2147483647 < l0.length) = false := decide_eq_false (by omega)
    clear c2
    have H' := Aside0.mk H
    clear H
    go_enter Tryd.func9, Tryd.ntmps9
    go_wp2
    go_loopg [10] k (fun kq v10 w' => ∃ (x10_1 : Int), v10 = .int .i64 x10_1 ∧ Aside0 (laws_zzFits5.l0 kq l0 (l0.length : Int) x10_1 = some r) ∧ Aside0 (kq ≤ k) ∧ Drawn0 w w')
    case atStart => exact ⟨(0), (by first | rfl | (simp; done) | (simp [*]; done)), H', ⟨Nat.le_refl _⟩, by repeat (first | exact Drawn0.refl _ | apply Drawn0.step)⟩
    case round =>
      clear H'
      try clear c2
      try clear c2b0
      try clear c2b1
      try clear p2
      obtain ⟨x10_1, rfl, HA, HK1, ⟨m1, rfl⟩⟩ := hrel
      cases gk with
      | zero => exact absurd HA.out (by simp [laws_zzFits5.l0])
      | succ k1 =>
        have H := HA.out
        clear HA
        simp only [laws_zzFits5.l0] at H
        by_cases c3 : x10_1 < (l0.length : Int)
        · rw [if_pos c3] at H
          have c3b0 : decide (x10_1 < (l0.length : Int)) = true := decide_eq_true c3
          clear c3
          by_cases c4 : 0 ≤ x10_1
          · rw [if_pos c4] at H
            have c4b0 : decide (0 ≤ x10_1) = true := decide_eq_true c4
            clear c4
            by_cases c5 : x10_1 < (l0.length : Int)
            · rw [if_pos c5] at H
              have c5b0 : decide (x10_1 < (l0.length : Int)) = true := decide_eq_true c5
              clear c5
              by_cases c6 : ((rdOf ByteArray.empty l0 x10_1).size : Int) > 2147483647
              · rw [if_pos c6] at H
                have c6b0 : decide (2147483647 < ((rdOf ByteArray.empty l0 x10_1).size : Int)) = true := decide_eq_true c6
                have c6b1 : decide (2147483647 < (rdOf ByteArray.empty l0 x10_1).size) = true := decide_eq_true (by omega)
                clear c6
                obtain rfl := Option.some.inj H
                have p101 : 0 ≤ (x10_1 : Int) := of_decide_eq_true (by first | (with_reducible assumption) | assumption)
                have q101 : x10_1 < (l0.length : Int) := of_decide_eq_true (by first | (with_reducible assumption) | assumption)
                obtain ⟨ad101, e101, hx101_0⟩ := Kd.at_string HR0.out x10_1 p101 q101
                cases e101
                replace p101 := eq_true p101
                replace q101 := eq_true q101
                go_wp2
                go_ret
                exact ⟨by first | rfl | (simp; done) | (simp [*]; done), by repeat (first | exact Drawn0.refl _ | apply Drawn0.step)⟩
              · rw [if_neg c6] at H
                have c6b0 : decide (2147483647 < ((rdOf ByteArray.empty l0 x10_1).size : Int)) = false := decide_eq_false c6
                have c6b1 : decide (2147483647 < (rdOf ByteArray.empty l0 x10_1).size) = false := decide_eq_false (by omega)
                clear c6
                have H' := Aside0.mk H
                clear H
                have p101 : 0 ≤ (x10_1 : Int) := of_decide_eq_true (by first | (with_reducible assumption) | assumption)
                have q101 : x10_1 < (l0.length : Int) := of_decide_eq_true (by first | (with_reducible assumption) | assumption)
                obtain ⟨ad101, e101, hx101_0⟩ := Kd.at_string HR0.out x10_1 p101 q101
                cases e101
                replace p101 := eq_true p101
                replace q101 := eq_true q101
                go_wp2
                go_roundg k1
                case measure => have := HK1.out; omega
                case rel => exact ⟨(wrap64 (x10_1 + 1)), (by first | rfl | (simp; done) | (simp [*]; done)), H', ⟨by have := HK1.out; omega⟩, by repeat (first | exact Drawn0.refl _ | apply Drawn0.step)⟩
            · rw [if_neg c5] at H
              exact absurd H (by simp)
          · rw [if_neg c4] at H
            exact absurd H (by simp)
        · rw [if_neg c3] at H
          have c3b0 : decide (x10_1 < (l0.length : Int)) = false := decide_eq_false c3
          clear c3
          obtain rfl := Option.some.inj H
          go_wp2
          go_ret
          exact ⟨by first | rfl | (simp; done) | (simp [*]; done), by repeat (first | exact Drawn0.refl _ | apply Drawn0.step)⟩

/-! ### laws_FnWrFullPieces: function 4 -/
def laws_FnWrFullPieces.l0 : Nat → List ByteArray → Int → Int → Int → ByteArray → Int → Option (Bool)
  | 0, _, _, _, _, _, _ => none
  | k + 1, x0, x1, x2, x3, x9, x10 => if x10 < (x0.length : Int) then (if 0 ≤ x10 then (if ((rdOf ByteArray.empty x0 x10).size : Int) > 1024 then (some true) else (if x9.size + (rdOf ByteArray.empty x0 x10).size ≤ 9223372036854775807 then (laws_FnWrFullPieces.l0 k x0 x1 x2 x3 (x9 ++ (rdOf ByteArray.empty x0 x10)) (wrap64 (x10 + 1))) else (none))) else (none)) else ((Given.WrFull.f x0 (wrap64 (x1)) (wrap64 (x3))).bind fun bt105 => ((Given.WrFull.f (([x9] : List ByteArray)) (wrap64 (x2)) (wrap64 (x3))).bind fun bt110 => ((Given.WrFull.f (([(⟨#[97, 98]⟩ : ByteArray), (⟨#[99]⟩ : ByteArray)] : List ByteArray)) 1 3).bind fun bt115 => (if (bt105.2 == bt110.2) = true then (if bt105.2 = true then (if bt105.1.toList = bt110.1.toList then (some bt115.2) else (some false)) else (some bt115.2)) else (some false)))))
def laws_FnWrFullPieces.f (k : Nat) (l0 : List ByteArray) (a1 : Int) (a2 : Int) (a3 : Int) : Option (Bool) := (laws_zzFits5.f k l0).bind fun t102 => (if t102 = true then (if (l0.length : Int) > 100 then (some true) else (laws_FnWrFullPieces.l0 k l0 a1 a2 a3 (⟨#[]⟩ : ByteArray) 0)) else (some true))
theorem laws_FnWrFullPieces.mono_l : ∀ k, (∀ y0 y1 y2 y3 y4 y5, LeO (laws_FnWrFullPieces.l0 k y0 y1 y2 y3 y4 y5) (laws_FnWrFullPieces.l0 (k + 1) y0 y1 y2 y3 y4 y5))
  | 0 => fun _ _ _ _ _ _ r h => by simp [laws_FnWrFullPieces.l0] at h
  | k + 1 => by
    have ih0 := laws_FnWrFullPieces.mono_l k
    · intro y0 y1 y2 y3 y4 y5
      unfold laws_FnWrFullPieces.l0
      repeat' first
      | (with_reducible exact ih0 _ _ _ _ _ _)
      | (with_reducible exact laws_zzFits5.mono _ _)
      | (with_reducible exact LeO.refl _)
      | (with_reducible exact LeO.none _)
      | (with_reducible refine LeO.ite ?_ ?_)
      | (with_reducible refine LeO.bind ?_ (fun _ => ?_))
      | exact ih0 _ _ _ _ _ _
      | exact laws_zzFits5.mono _ _
      | exact LeO.none _
      | refine LeO.ite ?_ ?_
      | refine LeO.bind ?_ (fun _ => ?_)
theorem laws_FnWrFullPieces.mono : ∀ a0 a1 a2 a3 k, LeO (laws_FnWrFullPieces.f k a0 a1 a2 a3) (laws_FnWrFullPieces.f (k + 1) a0 a1 a2 a3) := by
  intro a0 a1 a2 a3 k
  have ih0 := laws_FnWrFullPieces.mono_l k
  unfold laws_FnWrFullPieces.f
  repeat' first
      | (with_reducible exact ih0 _ _ _ _ _ _)
      | (with_reducible exact laws_zzFits5.mono _ _)
      | (with_reducible exact LeO.refl _)
      | (with_reducible exact LeO.none _)
      | (with_reducible refine LeO.ite ?_ ?_)
      | (with_reducible refine LeO.bind ?_ (fun _ => ?_))
      | exact ih0 _ _ _ _ _ _
      | exact laws_zzFits5.mono _ _
      | exact LeO.none _
      | refine LeO.ite ?_ ?_
      | refine LeO.bind ?_ (fun _ => ?_)
set_option maxHeartbeats 8000000 in
set_option maxRecDepth 100000 in
theorem laws_FnWrFullPieces.calls (k : Nat) (A0 : Option Addr) (c0 : Nat) (l0 : List ByteArray) (a1 : Int) (a2 : Int) (a3 : Int) (r : Bool) (w : World) (hG : Given.Glob w) (hr0 : Kd.C Kd.string w A0 l0.length l0) (hc0 : l0.length ≤ c0) (h : laws_FnWrFullPieces.f k l0 a1 a2 a3 = some r) :
    Calls Tryd.prog 4 #[.slice A0 l0.length c0, .int .u16 a1, .int .u16 a2, .int .u16 a3] w fun e w' => e = .returned (.bool r) ∧ Below w.heap.size w w' := by
  have HG := Aside0.mk hG
  clear hG
  have HR0 := Aside0.mk hr0
  have HC0 := Aside0.mk hc0
  clear hr0 hc0
  have HB := Aside0.mk (Below.refl w.heap.size w)
  have H : ((laws_zzFits5.f k l0).bind fun t102 => (if t102 = true then (if (l0.length : Int) > 100 then (some true) else (laws_FnWrFullPieces.l0 k l0 a1 a2 a3 (⟨#[]⟩ : ByteArray) 0)) else (some true))) = some r := h
  clear h
  replace H := Option.bind_eq_some_iff.mp H
  obtain ⟨t102, A50, H⟩ := H
  replace H : (if t102 = true then (if (l0.length : Int) > 100 then (some true) else (laws_FnWrFullPieces.l0 k l0 a1 a2 a3 (⟨#[]⟩ : ByteArray) 0)) else (some true)) = some r := H
  have A5 := Aside0.mk A50
  clear A50
  by_cases c6 : t102 = true
  · subst c6
    have H1 : (if (l0.length : Int) > 100 then (some true) else (laws_FnWrFullPieces.l0 k l0 a1 a2 a3 (⟨#[]⟩ : ByteArray) 0)) = some r := by rw [if_pos rfl] at H; exact H
    clear H
    have H := H1
    clear H1
    by_cases c7 : (l0.length : Int) > 100
    · rw [if_pos c7] at H
      have c7b0 : decide (100 < (l0.length : Int)) = true := decide_eq_true c7
      have c7b1 : decide (100 < l0.length) = true := decide_eq_true (by omega)
      clear c7
      obtain rfl := Option.some.inj H
      go_enter Tryd.func4, Tryd.ntmps4
      go_wp2_with (first | ((with_reducible refine gate_callee (f := 9) rfl ?_); refine goesL_ (some 18) rfl rfl Tryd.func9 (by kernel_rfl) rfl #[.slice A0 l0.length c0] rfl (by (try simp only [List.map_toArray, List.map_cons, List.map_nil]); first | done | rfl | (simp only [List.length_drop, List.length_take]; rfl)) ?_; (with_reducible refine (laws_zzFits5.calls k _ _ l0 true _ ?side1 ?side2 A5.out).mono ?_); (case side1 => repeat (first | exact HR0.out | (with_reducible refine Kd.C_alloc ?_ _) | (with_reducible refine Kd.C_drewN ?_ _) | (with_reducible refine Kd.C_drew ?_))); (case side2 => exact HC0.out); rintro e w' ⟨rfl, ⟨nd, rfl⟩⟩; refine ⟨_, rfl, ?_⟩))
      go_ret
      exact ⟨by first | rfl | (simp [errW_none, errW_some] <;> rfl) | (simp [*, errW_none, errW_some] <;> rfl), by repeat (first | (with_reducible first | exact HB.out | apply below_alloc | apply pw_below_drewN | apply below_drew1) | exact HB.out)⟩
    · rw [if_neg c7] at H
      have c7b0 : decide (100 < (l0.length : Int)) = false := decide_eq_false c7
      have c7b1 : decide (100 < l0.length) = false := decide_eq_false (by omega)
      clear c7
      have H' := Aside0.mk H
      clear H
      go_enter Tryd.func4, Tryd.ntmps4
      go_wp2_with (first | ((with_reducible refine gate_callee (f := 9) rfl ?_); refine goesL_ (some 18) rfl rfl Tryd.func9 (by kernel_rfl) rfl #[.slice A0 l0.length c0] rfl (by (try simp only [List.map_toArray, List.map_cons, List.map_nil]); first | done | rfl | (simp only [List.length_drop, List.length_take]; rfl)) ?_; (with_reducible refine (laws_zzFits5.calls k _ _ l0 true _ ?side1 ?side2 A5.out).mono ?_); (case side1 => repeat (first | exact HR0.out | (with_reducible refine Kd.C_alloc ?_ _) | (with_reducible refine Kd.C_drewN ?_ _) | (with_reducible refine Kd.C_drew ?_))); (case side2 => exact HC0.out); rintro e w' ⟨rfl, ⟨nd, rfl⟩⟩; refine ⟨_, rfl, ?_⟩))
      go_loopg [9, 10] k (fun kq v9 v10 w' => ∃ (x9_1 : ByteArray) (x10_1 : Int), v9 = .string x9_1 ∧ v10 = .int .i64 x10_1 ∧ Aside0 (laws_FnWrFullPieces.l0 kq l0 a1 a2 a3 x9_1 x10_1 = some r) ∧ Aside0 (kq ≤ k) ∧ Aside0 (Below w.heap.size w w'))
      case atStart => exact ⟨((⟨#[]⟩ : ByteArray)), (0), (by first | rfl | (simp; done) | (simp [*]; done)), (by first | rfl | (simp; done) | (simp [*]; done)), H', ⟨Nat.le_refl _⟩, ⟨by repeat (first | (with_reducible first | exact HB.out | apply below_alloc | apply pw_below_drewN | apply below_drew1) | exact HB.out)⟩⟩
      case round =>
        clear H'
        try clear p2
        try clear c4
        try clear c6
        try clear c7
        try clear c7b0
        try clear c7b1
        obtain ⟨x9_1, x10_1, rfl, rfl, HA, HK1, HB⟩ := hrel
        cases gk with
        | zero => exact absurd HA.out (by simp [laws_FnWrFullPieces.l0])
        | succ k1 =>
          have H := HA.out
          clear HA
          simp only [laws_FnWrFullPieces.l0] at H
          by_cases c8 : x10_1 < (l0.length : Int)
          · rw [if_pos c8] at H
            have c8b0 : decide (x10_1 < (l0.length : Int)) = true := decide_eq_true c8
            clear c8
            by_cases c9 : 0 ≤ x10_1
            · rw [if_pos c9] at H
              have c9b0 : decide (0 ≤ x10_1) = true := decide_eq_true c9
              clear c9
              by_cases c10 : ((rdOf ByteArray.empty l0 x10_1).size : Int) > 1024
              · rw [if_pos c10] at H
                have c10b0 : decide (1024 < ((rdOf ByteArray.empty l0 x10_1).size : Int)) = true := decide_eq_true c10
                have c10b1 : decide (1024 < (rdOf ByteArray.empty l0 x10_1).size) = true := decide_eq_true (by omega)
                clear c10
                obtain rfl := Option.some.inj H
                have p103 : 0 ≤ (x10_1 : Int) := of_decide_eq_true (by first | (with_reducible assumption) | assumption)
                have q103 : x10_1 < (l0.length : Int) := of_decide_eq_true (by first | (with_reducible assumption) | assumption)
                obtain ⟨ad103, e103, hx103_0⟩ := Kd.at_string HR0.out x10_1 p103 q103
                cases e103
                replace hx103_0 := (HB.out.cell (World.block_lt_of_cell? w _ hx103_0)).trans hx103_0
                replace p103 := eq_true p103
                replace q103 := eq_true q103
                go_wp2
                go_ret
                exact ⟨by first | rfl | (simp [errW_none, errW_some] <;> rfl) | (simp [*, errW_none, errW_some] <;> rfl), by repeat (first | (with_reducible first | exact HB.out | apply below_alloc | apply pw_below_drewN | apply below_drew1) | exact HB.out)⟩
              · rw [if_neg c10] at H
                have c10b0 : decide (1024 < ((rdOf ByteArray.empty l0 x10_1).size : Int)) = false := decide_eq_false c10
                have c10b1 : decide (1024 < (rdOf ByteArray.empty l0 x10_1).size) = false := decide_eq_false (by omega)
                clear c10
                by_cases c11 : x9_1.size + (rdOf ByteArray.empty l0 x10_1).size ≤ 9223372036854775807
                · rw [if_pos c11] at H
                  have c11b0 := eq_true c11
                  have c11b1 : decide (x9_1.size + (rdOf ByteArray.empty l0 x10_1).size ≤ 9223372036854775807) = true := decide_eq_true c11
                  try have c11b2 : (9223372036854775807 < x9_1.size + (rdOf ByteArray.empty l0 x10_1).size) = False := eq_false (Nat.not_lt.2 c11)
                  have H' := Aside0.mk H
                  clear H
                  have p103 : 0 ≤ (x10_1 : Int) := of_decide_eq_true (by first | (with_reducible assumption) | assumption)
                  have q103 : x10_1 < (l0.length : Int) := of_decide_eq_true (by first | (with_reducible assumption) | assumption)
                  obtain ⟨ad103, e103, hx103_0⟩ := Kd.at_string HR0.out x10_1 p103 q103
                  cases e103
                  replace hx103_0 := (HB.out.cell (World.block_lt_of_cell? w _ hx103_0)).trans hx103_0
                  replace p103 := eq_true p103
                  replace q103 := eq_true q103
                  have p104 : 0 ≤ (x10_1 : Int) := of_decide_eq_true (by first | (with_reducible assumption) | assumption)
                  have q104 : x10_1 < (l0.length : Int) := of_decide_eq_true (by first | (with_reducible assumption) | assumption)
                  obtain ⟨ad104, e104, hx104_0⟩ := Kd.at_string HR0.out x10_1 p104 q104
                  obtain rfl : ad103 = ad104 := (by injection e104)
                  replace hx104_0 := (HB.out.cell (World.block_lt_of_cell? w _ hx104_0)).trans hx104_0
                  replace p104 := eq_true p104
                  replace q104 := eq_true q104
                  go_wp2
                  go_roundg k1
                  case measure => have := HK1.out; omega
                  case rel => exact ⟨(x9_1 ++ (rdOf ByteArray.empty l0 x10_1)), (wrap64 (x10_1 + 1)), (by first | rfl | (simp; done) | (simp [*]; done)), (by first | rfl | (simp; done) | (simp [*]; done)), H', ⟨by have := HK1.out; omega⟩, ⟨by repeat (first | (with_reducible first | exact HB.out | apply below_alloc | apply pw_below_drewN | apply below_drew1) | exact HB.out)⟩⟩
                · rw [if_neg c11] at H
                  exact absurd H (by simp)
            · rw [if_neg c9] at H
              exact absurd H (by simp)
          · rw [if_neg c8] at H
            have c8b0 : decide (x10_1 < (l0.length : Int)) = false := decide_eq_false c8
            clear c8
            replace H := Option.bind_eq_some_iff.mp H
            obtain ⟨⟨t105, t106⟩, A120, H⟩ := H
            replace H : ((Given.WrFull.f (([x9_1] : List ByteArray)) (wrap64 (a2)) (wrap64 (a3))).bind fun bt110 => ((Given.WrFull.f (([(⟨#[97, 98]⟩ : ByteArray), (⟨#[99]⟩ : ByteArray)] : List ByteArray)) 1 3).bind fun bt115 => (if (t106 == bt110.2) = true then (if t106 = true then (if t105.toList = bt110.1.toList then (some bt115.2) else (some false)) else (some bt115.2)) else (some false)))) = some r := H
            have A12 := Aside0.mk A120
            clear A120
            obtain ⟨y107, hy107⟩ : ∃ y_ : List ByteArray, y_ = (([x9_1] : List ByteArray)) := ⟨_, rfl⟩
            replace H : ((Given.WrFull.f y107 (wrap64 (a2)) (wrap64 (a3))).bind fun bt110 => ((Given.WrFull.f (([(⟨#[97, 98]⟩ : ByteArray), (⟨#[99]⟩ : ByteArray)] : List ByteArray)) 1 3).bind fun bt115 => (if (t106 == bt110.2) = true then (if t106 = true then (if t105.toList = bt110.1.toList then (some bt115.2) else (some false)) else (some bt115.2)) else (some false)))) = some r := by first | (rw [hy107]; with_reducible exact H) | (have H2_ := (Option.bind_some _ _).symm.trans H; rw [hy107]; with_reducible exact H2_) | (have H2_ := (Option.bind_some _ _).symm.trans H; with_reducible exact H2_) | with_reducible exact H | (rw [hy107]; exact H) | exact H
            have Ny107 := Aside0.mk hy107
            clear hy107
            replace H := Option.bind_eq_some_iff.mp H
            obtain ⟨⟨t110, t111⟩, A130, H⟩ := H
            replace H : ((Given.WrFull.f (([(⟨#[97, 98]⟩ : ByteArray), (⟨#[99]⟩ : ByteArray)] : List ByteArray)) 1 3).bind fun bt115 => (if (t106 == t111) = true then (if t106 = true then (if t105.toList = t110.toList then (some bt115.2) else (some false)) else (some bt115.2)) else (some false))) = some r := H
            have A13 := Aside0.mk A130
            clear A130
            obtain ⟨y112, hy112⟩ : ∃ y_ : List ByteArray, y_ = (([(⟨#[97, 98]⟩ : ByteArray), (⟨#[99]⟩ : ByteArray)] : List ByteArray)) := ⟨_, rfl⟩
            replace H : ((Given.WrFull.f y112 1 3).bind fun bt115 => (if (t106 == t111) = true then (if t106 = true then (if t105.toList = t110.toList then (some bt115.2) else (some false)) else (some bt115.2)) else (some false))) = some r := by first | (rw [hy112]; with_reducible exact H) | (have H2_ := (Option.bind_some _ _).symm.trans H; rw [hy112]; with_reducible exact H2_) | (have H2_ := (Option.bind_some _ _).symm.trans H; with_reducible exact H2_) | with_reducible exact H | (rw [hy112]; exact H) | exact H
            have Ny112 := Aside0.mk hy112
            clear hy112
            replace H := Option.bind_eq_some_iff.mp H
            obtain ⟨⟨t115, t116⟩, A140, H⟩ := H
            replace H : (if (t106 == t111) = true then (if t106 = true then (if t105.toList = t110.toList then (some t116) else (some false)) else (some t116)) else (some false)) = some r := H
            have A14 := Aside0.mk A140
            clear A140
            by_cases c15 : (t106 == t111) = true
            · rw [if_pos c15] at H
              have c15b0 : (t106 == t111) = true := c15
              (try (have c15b1 : decide (t106 = t111) = true := by simpa using c15))
              (try (have c15b2 : (t106 == t111) = true := by simpa using c15))
              clear c15
              by_cases c16 : t106 = true
              · subst c16
                have H1 : (if t105.toList = t110.toList then (some t116) else (some false)) = some r := by rw [if_pos rfl] at H; exact H
                clear H
                have H := H1
                clear H1
                by_cases c17 : t105.toList = t110.toList
                · rw [if_pos c17] at H
                  have c17b0 : (t105.toList == t110.toList) = true := beq_iff_eq.mpr c17
                  have c17b1 : (t105.toList != t110.toList) = false := bne_eq_false_iff_eq.mpr c17
                  clear c17
                  obtain rfl := Option.some.inj H
                  go_wp2_with (first | ((with_reducible refine gate_callee (f := 7) rfl ?_); refine goesL_ (some 47) rfl rfl Tryd.func7 (by kernel_rfl) rfl #[.slice A0 l0.length c0, .int .i64 (wrap64 (a1)), .int .i64 (wrap64 (a3))] rfl (by (try simp only [List.map_toArray, List.map_cons, List.map_nil]); first | done | rfl | (simp only [List.length_drop, List.length_take]; rfl)) ?_; (with_reducible refine (Given.WrFull.calls _ _ l0 (wrap64 (a1)) (wrap64 (a3)) t105 true _ ?side1 ?side2 ?sideG A12.out).mono ?_); (case sideG => exact Given.Glob.below HG.out (by repeat (first | (with_reducible first | exact HB.out | apply below_alloc | apply pw_below_drewN | apply below_drew1) | exact HB.out))); (case side1 => repeat (first | exact (Kd.C_below HR0.out HB.out) | (with_reducible refine Kd.C_alloc ?_ _) | (with_reducible refine Kd.C_drewN ?_ _) | (with_reducible refine Kd.C_drew ?_))); (case side2 => exact HC0.out); rintro e w18 ⟨rfl, hb⟩; refine ⟨_, rfl, ?_⟩; have n0_ := Aside0.mk (below_step (by repeat (first | (with_reducible first | exact HB.out | apply below_alloc | apply pw_below_drewN | apply below_drew1) | exact HB.out)) hb); clear HB; have HB := n0_; clear n0_; (try clear hb); (try clear hb2); (try clear hk); (try clear hi)) | ((with_reducible refine gate_dst (N := 52) rfl ?_); refine Kd.R_lit Kd.string _ 9 ?hg (N := 52) ?hd (xs := ([x9_1] : List ByteArray)) (inner := [.string x9_1]) (ok := fun _ => True) (okp := fun _ => True) ?hr ?hp (fun _ hk => hk) trivial (Below.refl _ _) (Nat.le_refl _) (by simp) ?_; (case hd => rfl); (case hg => rfl); (case hr => first | (go_simp; done) | (go_simp; rfl)); (case hp => exact (Reps.one (show Kd.M Kd.string _ _ _ x9_1 [.string x9_1] from rfl) (Reps.none _ _))); intro v108 w19 ho20 hb hg_ hnew_; clear hg_ hnew_; (first | rw [← Ny107.out] at ho20 | (simp only [Int.reduceToNat] at ho20; rw [← Ny107.out] at ho20)); have n0_ := Aside0.mk (Kd.R_lower ho20 (below_size (by repeat (first | (with_reducible first | exact HB.out | apply below_alloc | apply pw_below_drewN | apply below_drew1) | exact HB.out)))); have n1_ := Aside0.mk (below_step (by repeat (first | (with_reducible first | exact HB.out | apply below_alloc | apply pw_below_drewN | apply below_drew1) | exact HB.out)) hb); clear HB; have HO109 := n0_; have HB := n1_; clear n0_ n1_; clear hb ho20; obtain ⟨Ao21, co21, eo21⟩ := Kd.R_slice HO109.out; subst eo21) | ((with_reducible refine gate_callee (f := 7) rfl ?_); refine goesL_ (some 57) rfl rfl Tryd.func7 (by kernel_rfl) rfl #[.slice Ao21 y107.length co21, .int .i64 (wrap64 (a2)), .int .i64 (wrap64 (a3))] rfl (by (try simp only [List.map_toArray, List.map_cons, List.map_nil]); first | done | rfl | (simp only [List.length_drop, List.length_take]; rfl)) ?_; (with_reducible refine (Given.WrFull.calls _ _ y107 (wrap64 (a2)) (wrap64 (a3)) t110 t111 _ ?side1 ?side2 ?sideG A13.out).mono ?_); (case sideG => exact Given.Glob.below HG.out (by repeat (first | (with_reducible first | exact HB.out | apply below_alloc | apply pw_below_drewN | apply below_drew1) | exact HB.out))); (case side1 => repeat (first | exact (Kd.R_reads' HO109.out).2.2 | (with_reducible refine Kd.C_alloc ?_ _) | (with_reducible refine Kd.C_drewN ?_ _) | (with_reducible refine Kd.C_drew ?_))); (case side2 => exact (Kd.R_reads' HO109.out).2.1); rintro e w22 ⟨rfl, hb⟩; refine ⟨_, rfl, ?_⟩; have n0_ := Aside0.mk (Kd.R_below (by (with_reducible repeat (first | apply Kd.R_alloc | apply Kd.R_drewN | apply Kd.R_drew)); exact HO109.out) hb); have n1_ := Aside0.mk (below_step (by repeat (first | (with_reducible first | exact HB.out | apply below_alloc | apply pw_below_drewN | apply below_drew1) | exact HB.out)) hb); clear HO109; clear HB; have HO109 := n0_; have HB := n1_; clear n0_ n1_; (try clear hb); (try clear hb2); (try clear hk); (try clear hi)) | ((with_reducible refine gate_dst (N := 61) rfl ?_); refine Kd.R_lit Kd.string _ 9 ?hg (N := 61) ?hd (xs := ([(⟨#[97, 98]⟩ : ByteArray), (⟨#[99]⟩ : ByteArray)] : List ByteArray)) (inner := [.string (⟨#[97, 98]⟩ : ByteArray), .string (⟨#[99]⟩ : ByteArray)]) (ok := fun _ => True) (okp := fun _ => True) ?hr ?hp (fun _ hk => hk) trivial (Below.refl _ _) (Nat.le_refl _) (by simp) ?_; (case hd => rfl); (case hg => rfl); (case hr => first | (go_simp; done) | (go_simp; rfl)); (case hp => exact (Reps.one (show Kd.M Kd.string _ _ _ (⟨#[97, 98]⟩ : ByteArray) [.string (⟨#[97, 98]⟩ : ByteArray)] from rfl) (Reps.one (show Kd.M Kd.string _ _ _ (⟨#[99]⟩ : ByteArray) [.string (⟨#[99]⟩ : ByteArray)] from rfl) (Reps.none _ _)))); intro v113 w23 ho24 hb hg_ hnew_; clear hg_ hnew_; (first | rw [← Ny112.out] at ho24 | (simp only [Int.reduceToNat] at ho24; rw [← Ny112.out] at ho24)); have n0_ := Aside0.mk (Kd.R_elder' (by (with_reducible repeat (first | apply Kd.R_alloc | apply Kd.R_drewN | apply Kd.R_drew)); exact HO109.out) (Kd.R_base ho24) hb); have n1_ := Aside0.mk (Kd.R_lower (Kd.R_new' ho24 (Kd.R_lt (by (with_reducible repeat (first | apply Kd.R_alloc | apply Kd.R_drewN | apply Kd.R_drew)); exact HO109.out))) (below_size (by repeat (first | (with_reducible first | exact HB.out | apply below_alloc | apply pw_below_drewN | apply below_drew1) | exact HB.out)))); have n2_ := Aside0.mk (below_step (by repeat (first | (with_reducible first | exact HB.out | apply below_alloc | apply pw_below_drewN | apply below_drew1) | exact HB.out)) hb); clear HO109; clear HB; have HO109 := n0_; have HO114 := n1_; have HB := n2_; clear n0_ n1_ n2_; clear hb ho24; obtain ⟨Ao25, co25, eo25⟩ := Kd.R_slice HO114.out; subst eo25) | ((with_reducible refine gate_callee (f := 7) rfl ?_); refine goesL_ (some 62) rfl rfl Tryd.func7 (by kernel_rfl) rfl #[.slice Ao25 y112.length co25, .int .i64 1, .int .i64 3] rfl (by (try simp only [List.map_toArray, List.map_cons, List.map_nil]); first | done | rfl | (simp only [List.length_drop, List.length_take]; rfl)) ?_; (with_reducible refine (Given.WrFull.calls _ _ y112 1 3 t115 t116 _ ?side1 ?side2 ?sideG A14.out).mono ?_); (case sideG => exact Given.Glob.below HG.out (by repeat (first | (with_reducible first | exact HB.out | apply below_alloc | apply pw_below_drewN | apply below_drew1) | exact HB.out))); (case side1 => repeat (first | exact (Kd.R_reads' HO114.out).2.2 | (with_reducible refine Kd.C_alloc ?_ _) | (with_reducible refine Kd.C_drewN ?_ _) | (with_reducible refine Kd.C_drew ?_))); (case side2 => exact (Kd.R_reads' HO114.out).2.1); rintro e w26 ⟨rfl, hb⟩; refine ⟨_, rfl, ?_⟩; have n0_ := Aside0.mk (Kd.R_below (by (with_reducible repeat (first | apply Kd.R_alloc | apply Kd.R_drewN | apply Kd.R_drew)); exact HO109.out) hb); have n1_ := Aside0.mk (Kd.R_below (by (with_reducible repeat (first | apply Kd.R_alloc | apply Kd.R_drewN | apply Kd.R_drew)); exact HO114.out) hb); have n2_ := Aside0.mk (below_step (by repeat (first | (with_reducible first | exact HB.out | apply below_alloc | apply pw_below_drewN | apply below_drew1) | exact HB.out)) hb); clear HO109; clear HO114; clear HB; have HO109 := n0_; have HO114 := n1_; have HB := n2_; clear n0_ n1_ n2_; (try clear hb); (try clear hb2); (try clear hk); (try clear hi)))
                  go_ret
                  exact ⟨by first | rfl | (simp [errW_none, errW_some] <;> rfl) | (simp [*, errW_none, errW_some] <;> rfl), by repeat (first | (with_reducible first | exact HB.out | apply below_alloc | apply pw_below_drewN | apply below_drew1) | exact HB.out)⟩
                · rw [if_neg c17] at H
                  have c17b0 : (t105.toList == t110.toList) = false := beq_eq_false_iff_ne.mpr c17
                  have c17b1 : (t105.toList != t110.toList) = true := bne_iff_ne.mpr c17
                  obtain rfl := Option.some.inj H
                  go_wp2_with (first | ((with_reducible refine gate_callee (f := 7) rfl ?_); refine goesL_ (some 47) rfl rfl Tryd.func7 (by kernel_rfl) rfl #[.slice A0 l0.length c0, .int .i64 (wrap64 (a1)), .int .i64 (wrap64 (a3))] rfl (by (try simp only [List.map_toArray, List.map_cons, List.map_nil]); first | done | rfl | (simp only [List.length_drop, List.length_take]; rfl)) ?_; (with_reducible refine (Given.WrFull.calls _ _ l0 (wrap64 (a1)) (wrap64 (a3)) t105 true _ ?side1 ?side2 ?sideG A12.out).mono ?_); (case sideG => exact Given.Glob.below HG.out (by repeat (first | (with_reducible first | exact HB.out | apply below_alloc | apply pw_below_drewN | apply below_drew1) | exact HB.out))); (case side1 => repeat (first | exact (Kd.C_below HR0.out HB.out) | (with_reducible refine Kd.C_alloc ?_ _) | (with_reducible refine Kd.C_drewN ?_ _) | (with_reducible refine Kd.C_drew ?_))); (case side2 => exact HC0.out); rintro e w27 ⟨rfl, hb⟩; refine ⟨_, rfl, ?_⟩; have n0_ := Aside0.mk (below_step (by repeat (first | (with_reducible first | exact HB.out | apply below_alloc | apply pw_below_drewN | apply below_drew1) | exact HB.out)) hb); clear HB; have HB := n0_; clear n0_; (try clear hb); (try clear hb2); (try clear hk); (try clear hi)) | ((with_reducible refine gate_dst (N := 52) rfl ?_); refine Kd.R_lit Kd.string _ 9 ?hg (N := 52) ?hd (xs := ([x9_1] : List ByteArray)) (inner := [.string x9_1]) (ok := fun _ => True) (okp := fun _ => True) ?hr ?hp (fun _ hk => hk) trivial (Below.refl _ _) (Nat.le_refl _) (by simp) ?_; (case hd => rfl); (case hg => rfl); (case hr => first | (go_simp; done) | (go_simp; rfl)); (case hp => exact (Reps.one (show Kd.M Kd.string _ _ _ x9_1 [.string x9_1] from rfl) (Reps.none _ _))); intro v108 w28 ho29 hb hg_ hnew_; clear hg_ hnew_; (first | rw [← Ny107.out] at ho29 | (simp only [Int.reduceToNat] at ho29; rw [← Ny107.out] at ho29)); have n0_ := Aside0.mk (Kd.R_lower ho29 (below_size (by repeat (first | (with_reducible first | exact HB.out | apply below_alloc | apply pw_below_drewN | apply below_drew1) | exact HB.out)))); have n1_ := Aside0.mk (below_step (by repeat (first | (with_reducible first | exact HB.out | apply below_alloc | apply pw_below_drewN | apply below_drew1) | exact HB.out)) hb); clear HB; have HO109 := n0_; have HB := n1_; clear n0_ n1_; clear hb ho29; obtain ⟨Ao30, co30, eo30⟩ := Kd.R_slice HO109.out; subst eo30) | ((with_reducible refine gate_callee (f := 7) rfl ?_); refine goesL_ (some 57) rfl rfl Tryd.func7 (by kernel_rfl) rfl #[.slice Ao30 y107.length co30, .int .i64 (wrap64 (a2)), .int .i64 (wrap64 (a3))] rfl (by (try simp only [List.map_toArray, List.map_cons, List.map_nil]); first | done | rfl | (simp only [List.length_drop, List.length_take]; rfl)) ?_; (with_reducible refine (Given.WrFull.calls _ _ y107 (wrap64 (a2)) (wrap64 (a3)) t110 t111 _ ?side1 ?side2 ?sideG A13.out).mono ?_); (case sideG => exact Given.Glob.below HG.out (by repeat (first | (with_reducible first | exact HB.out | apply below_alloc | apply pw_below_drewN | apply below_drew1) | exact HB.out))); (case side1 => repeat (first | exact (Kd.R_reads' HO109.out).2.2 | (with_reducible refine Kd.C_alloc ?_ _) | (with_reducible refine Kd.C_drewN ?_ _) | (with_reducible refine Kd.C_drew ?_))); (case side2 => exact (Kd.R_reads' HO109.out).2.1); rintro e w31 ⟨rfl, hb⟩; refine ⟨_, rfl, ?_⟩; have n0_ := Aside0.mk (Kd.R_below (by (with_reducible repeat (first | apply Kd.R_alloc | apply Kd.R_drewN | apply Kd.R_drew)); exact HO109.out) hb); have n1_ := Aside0.mk (below_step (by repeat (first | (with_reducible first | exact HB.out | apply below_alloc | apply pw_below_drewN | apply below_drew1) | exact HB.out)) hb); clear HO109; clear HB; have HO109 := n0_; have HB := n1_; clear n0_ n1_; (try clear hb); (try clear hb2); (try clear hk); (try clear hi)) | ((with_reducible refine gate_dst (N := 61) rfl ?_); refine Kd.R_lit Kd.string _ 9 ?hg (N := 61) ?hd (xs := ([(⟨#[97, 98]⟩ : ByteArray), (⟨#[99]⟩ : ByteArray)] : List ByteArray)) (inner := [.string (⟨#[97, 98]⟩ : ByteArray), .string (⟨#[99]⟩ : ByteArray)]) (ok := fun _ => True) (okp := fun _ => True) ?hr ?hp (fun _ hk => hk) trivial (Below.refl _ _) (Nat.le_refl _) (by simp) ?_; (case hd => rfl); (case hg => rfl); (case hr => first | (go_simp; done) | (go_simp; rfl)); (case hp => exact (Reps.one (show Kd.M Kd.string _ _ _ (⟨#[97, 98]⟩ : ByteArray) [.string (⟨#[97, 98]⟩ : ByteArray)] from rfl) (Reps.one (show Kd.M Kd.string _ _ _ (⟨#[99]⟩ : ByteArray) [.string (⟨#[99]⟩ : ByteArray)] from rfl) (Reps.none _ _)))); intro v113 w32 ho33 hb hg_ hnew_; clear hg_ hnew_; (first | rw [← Ny112.out] at ho33 | (simp only [Int.reduceToNat] at ho33; rw [← Ny112.out] at ho33)); have n0_ := Aside0.mk (Kd.R_elder' (by (with_reducible repeat (first | apply Kd.R_alloc | apply Kd.R_drewN | apply Kd.R_drew)); exact HO109.out) (Kd.R_base ho33) hb); have n1_ := Aside0.mk (Kd.R_lower (Kd.R_new' ho33 (Kd.R_lt (by (with_reducible repeat (first | apply Kd.R_alloc | apply Kd.R_drewN | apply Kd.R_drew)); exact HO109.out))) (below_size (by repeat (first | (with_reducible first | exact HB.out | apply below_alloc | apply pw_below_drewN | apply below_drew1) | exact HB.out)))); have n2_ := Aside0.mk (below_step (by repeat (first | (with_reducible first | exact HB.out | apply below_alloc | apply pw_below_drewN | apply below_drew1) | exact HB.out)) hb); clear HO109; clear HB; have HO109 := n0_; have HO114 := n1_; have HB := n2_; clear n0_ n1_ n2_; clear hb ho33; obtain ⟨Ao34, co34, eo34⟩ := Kd.R_slice HO114.out; subst eo34) | ((with_reducible refine gate_callee (f := 7) rfl ?_); refine goesL_ (some 62) rfl rfl Tryd.func7 (by kernel_rfl) rfl #[.slice Ao34 y112.length co34, .int .i64 1, .int .i64 3] rfl (by (try simp only [List.map_toArray, List.map_cons, List.map_nil]); first | done | rfl | (simp only [List.length_drop, List.length_take]; rfl)) ?_; (with_reducible refine (Given.WrFull.calls _ _ y112 1 3 t115 t116 _ ?side1 ?side2 ?sideG A14.out).mono ?_); (case sideG => exact Given.Glob.below HG.out (by repeat (first | (with_reducible first | exact HB.out | apply below_alloc | apply pw_below_drewN | apply below_drew1) | exact HB.out))); (case side1 => repeat (first | exact (Kd.R_reads' HO114.out).2.2 | (with_reducible refine Kd.C_alloc ?_ _) | (with_reducible refine Kd.C_drewN ?_ _) | (with_reducible refine Kd.C_drew ?_))); (case side2 => exact (Kd.R_reads' HO114.out).2.1); rintro e w35 ⟨rfl, hb⟩; refine ⟨_, rfl, ?_⟩; have n0_ := Aside0.mk (Kd.R_below (by (with_reducible repeat (first | apply Kd.R_alloc | apply Kd.R_drewN | apply Kd.R_drew)); exact HO109.out) hb); have n1_ := Aside0.mk (Kd.R_below (by (with_reducible repeat (first | apply Kd.R_alloc | apply Kd.R_drewN | apply Kd.R_drew)); exact HO114.out) hb); have n2_ := Aside0.mk (below_step (by repeat (first | (with_reducible first | exact HB.out | apply below_alloc | apply pw_below_drewN | apply below_drew1) | exact HB.out)) hb); clear HO109; clear HO114; clear HB; have HO109 := n0_; have HO114 := n1_; have HB := n2_; clear n0_ n1_ n2_; (try clear hb); (try clear hb2); (try clear hk); (try clear hi)))
                  go_ret
                  exact ⟨by first | rfl | (simp [errW_none, errW_some] <;> rfl) | (simp [*, errW_none, errW_some] <;> rfl), by repeat (first | (with_reducible first | exact HB.out | apply below_alloc | apply pw_below_drewN | apply below_drew1) | exact HB.out)⟩
              · replace c16 := Bool.eq_false_iff.mpr c16
                subst c16
                have H1 : (some t116) = some r := by rw [if_neg (show ¬ (false = true) by decide)] at H; exact H
                clear H
                have H := H1
                clear H1
                obtain rfl := Option.some.inj H
                go_wp2_with (first | ((with_reducible refine gate_callee (f := 7) rfl ?_); refine goesL_ (some 47) rfl rfl Tryd.func7 (by kernel_rfl) rfl #[.slice A0 l0.length c0, .int .i64 (wrap64 (a1)), .int .i64 (wrap64 (a3))] rfl (by (try simp only [List.map_toArray, List.map_cons, List.map_nil]); first | done | rfl | (simp only [List.length_drop, List.length_take]; rfl)) ?_; (with_reducible refine (Given.WrFull.calls _ _ l0 (wrap64 (a1)) (wrap64 (a3)) t105 false _ ?side1 ?side2 ?sideG A12.out).mono ?_); (case sideG => exact Given.Glob.below HG.out (by repeat (first | (with_reducible first | exact HB.out | apply below_alloc | apply pw_below_drewN | apply below_drew1) | exact HB.out))); (case side1 => repeat (first | exact (Kd.C_below HR0.out HB.out) | (with_reducible refine Kd.C_alloc ?_ _) | (with_reducible refine Kd.C_drewN ?_ _) | (with_reducible refine Kd.C_drew ?_))); (case side2 => exact HC0.out); rintro e w36 ⟨rfl, hb⟩; refine ⟨_, rfl, ?_⟩; have n0_ := Aside0.mk (below_step (by repeat (first | (with_reducible first | exact HB.out | apply below_alloc | apply pw_below_drewN | apply below_drew1) | exact HB.out)) hb); clear HB; have HB := n0_; clear n0_; (try clear hb); (try clear hb2); (try clear hk); (try clear hi)) | ((with_reducible refine gate_dst (N := 52) rfl ?_); refine Kd.R_lit Kd.string _ 9 ?hg (N := 52) ?hd (xs := ([x9_1] : List ByteArray)) (inner := [.string x9_1]) (ok := fun _ => True) (okp := fun _ => True) ?hr ?hp (fun _ hk => hk) trivial (Below.refl _ _) (Nat.le_refl _) (by simp) ?_; (case hd => rfl); (case hg => rfl); (case hr => first | (go_simp; done) | (go_simp; rfl)); (case hp => exact (Reps.one (show Kd.M Kd.string _ _ _ x9_1 [.string x9_1] from rfl) (Reps.none _ _))); intro v108 w37 ho38 hb hg_ hnew_; clear hg_ hnew_; (first | rw [← Ny107.out] at ho38 | (simp only [Int.reduceToNat] at ho38; rw [← Ny107.out] at ho38)); have n0_ := Aside0.mk (Kd.R_lower ho38 (below_size (by repeat (first | (with_reducible first | exact HB.out | apply below_alloc | apply pw_below_drewN | apply below_drew1) | exact HB.out)))); have n1_ := Aside0.mk (below_step (by repeat (first | (with_reducible first | exact HB.out | apply below_alloc | apply pw_below_drewN | apply below_drew1) | exact HB.out)) hb); clear HB; have HO109 := n0_; have HB := n1_; clear n0_ n1_; clear hb ho38; obtain ⟨Ao39, co39, eo39⟩ := Kd.R_slice HO109.out; subst eo39) | ((with_reducible refine gate_callee (f := 7) rfl ?_); refine goesL_ (some 57) rfl rfl Tryd.func7 (by kernel_rfl) rfl #[.slice Ao39 y107.length co39, .int .i64 (wrap64 (a2)), .int .i64 (wrap64 (a3))] rfl (by (try simp only [List.map_toArray, List.map_cons, List.map_nil]); first | done | rfl | (simp only [List.length_drop, List.length_take]; rfl)) ?_; (with_reducible refine (Given.WrFull.calls _ _ y107 (wrap64 (a2)) (wrap64 (a3)) t110 t111 _ ?side1 ?side2 ?sideG A13.out).mono ?_); (case sideG => exact Given.Glob.below HG.out (by repeat (first | (with_reducible first | exact HB.out | apply below_alloc | apply pw_below_drewN | apply below_drew1) | exact HB.out))); (case side1 => repeat (first | exact (Kd.R_reads' HO109.out).2.2 | (with_reducible refine Kd.C_alloc ?_ _) | (with_reducible refine Kd.C_drewN ?_ _) | (with_reducible refine Kd.C_drew ?_))); (case side2 => exact (Kd.R_reads' HO109.out).2.1); rintro e w40 ⟨rfl, hb⟩; refine ⟨_, rfl, ?_⟩; have n0_ := Aside0.mk (Kd.R_below (by (with_reducible repeat (first | apply Kd.R_alloc | apply Kd.R_drewN | apply Kd.R_drew)); exact HO109.out) hb); have n1_ := Aside0.mk (below_step (by repeat (first | (with_reducible first | exact HB.out | apply below_alloc | apply pw_below_drewN | apply below_drew1) | exact HB.out)) hb); clear HO109; clear HB; have HO109 := n0_; have HB := n1_; clear n0_ n1_; (try clear hb); (try clear hb2); (try clear hk); (try clear hi)) | ((with_reducible refine gate_dst (N := 61) rfl ?_); refine Kd.R_lit Kd.string _ 9 ?hg (N := 61) ?hd (xs := ([(⟨#[97, 98]⟩ : ByteArray), (⟨#[99]⟩ : ByteArray)] : List ByteArray)) (inner := [.string (⟨#[97, 98]⟩ : ByteArray), .string (⟨#[99]⟩ : ByteArray)]) (ok := fun _ => True) (okp := fun _ => True) ?hr ?hp (fun _ hk => hk) trivial (Below.refl _ _) (Nat.le_refl _) (by simp) ?_; (case hd => rfl); (case hg => rfl); (case hr => first | (go_simp; done) | (go_simp; rfl)); (case hp => exact (Reps.one (show Kd.M Kd.string _ _ _ (⟨#[97, 98]⟩ : ByteArray) [.string (⟨#[97, 98]⟩ : ByteArray)] from rfl) (Reps.one (show Kd.M Kd.string _ _ _ (⟨#[99]⟩ : ByteArray) [.string (⟨#[99]⟩ : ByteArray)] from rfl) (Reps.none _ _)))); intro v113 w41 ho42 hb hg_ hnew_; clear hg_ hnew_; (first | rw [← Ny112.out] at ho42 | (simp only [Int.reduceToNat] at ho42; rw [← Ny112.out] at ho42)); have n0_ := Aside0.mk (Kd.R_elder' (by (with_reducible repeat (first | apply Kd.R_alloc | apply Kd.R_drewN | apply Kd.R_drew)); exact HO109.out) (Kd.R_base ho42) hb); have n1_ := Aside0.mk (Kd.R_lower (Kd.R_new' ho42 (Kd.R_lt (by (with_reducible repeat (first | apply Kd.R_alloc | apply Kd.R_drewN | apply Kd.R_drew)); exact HO109.out))) (below_size (by repeat (first | (with_reducible first | exact HB.out | apply below_alloc | apply pw_below_drewN | apply below_drew1) | exact HB.out)))); have n2_ := Aside0.mk (below_step (by repeat (first | (with_reducible first | exact HB.out | apply below_alloc | apply pw_below_drewN | apply below_drew1) | exact HB.out)) hb); clear HO109; clear HB; have HO109 := n0_; have HO114 := n1_; have HB := n2_; clear n0_ n1_ n2_; clear hb ho42; obtain ⟨Ao43, co43, eo43⟩ := Kd.R_slice HO114.out; subst eo43) | ((with_reducible refine gate_callee (f := 7) rfl ?_); refine goesL_ (some 62) rfl rfl Tryd.func7 (by kernel_rfl) rfl #[.slice Ao43 y112.length co43, .int .i64 1, .int .i64 3] rfl (by (try simp only [List.map_toArray, List.map_cons, List.map_nil]); first | done | rfl | (simp only [List.length_drop, List.length_take]; rfl)) ?_; (with_reducible refine (Given.WrFull.calls _ _ y112 1 3 t115 t116 _ ?side1 ?side2 ?sideG A14.out).mono ?_); (case sideG => exact Given.Glob.below HG.out (by repeat (first | (with_reducible first | exact HB.out | apply below_alloc | apply pw_below_drewN | apply below_drew1) | exact HB.out))); (case side1 => repeat (first | exact (Kd.R_reads' HO114.out).2.2 | (with_reducible refine Kd.C_alloc ?_ _) | (with_reducible refine Kd.C_drewN ?_ _) | (with_reducible refine Kd.C_drew ?_))); (case side2 => exact (Kd.R_reads' HO114.out).2.1); rintro e w44 ⟨rfl, hb⟩; refine ⟨_, rfl, ?_⟩; have n0_ := Aside0.mk (Kd.R_below (by (with_reducible repeat (first | apply Kd.R_alloc | apply Kd.R_drewN | apply Kd.R_drew)); exact HO109.out) hb); have n1_ := Aside0.mk (Kd.R_below (by (with_reducible repeat (first | apply Kd.R_alloc | apply Kd.R_drewN | apply Kd.R_drew)); exact HO114.out) hb); have n2_ := Aside0.mk (below_step (by repeat (first | (with_reducible first | exact HB.out | apply below_alloc | apply pw_below_drewN | apply below_drew1) | exact HB.out)) hb); clear HO109; clear HO114; clear HB; have HO109 := n0_; have HO114 := n1_; have HB := n2_; clear n0_ n1_ n2_; (try clear hb); (try clear hb2); (try clear hk); (try clear hi)))
                go_ret
                exact ⟨by first | rfl | (simp [errW_none, errW_some] <;> rfl) | (simp [*, errW_none, errW_some] <;> rfl), by repeat (first | (with_reducible first | exact HB.out | apply below_alloc | apply pw_below_drewN | apply below_drew1) | exact HB.out)⟩
            · rw [if_neg c15] at H
              have c15b0 : (t106 == t111) = false := by simpa using c15
              (try (have c15b1 : decide (t106 = t111) = false := by simpa using c15))
              (try (have c15b2 : (t106 == t111) = false := by simpa using c15))
              (try (have c15b3 : ¬ (t106 = t111) := by simpa using c15))
              clear c15
              obtain rfl := Option.some.inj H
              go_wp2_with (first | ((with_reducible refine gate_callee (f := 7) rfl ?_); refine goesL_ (some 47) rfl rfl Tryd.func7 (by kernel_rfl) rfl #[.slice A0 l0.length c0, .int .i64 (wrap64 (a1)), .int .i64 (wrap64 (a3))] rfl (by (try simp only [List.map_toArray, List.map_cons, List.map_nil]); first | done | rfl | (simp only [List.length_drop, List.length_take]; rfl)) ?_; (with_reducible refine (Given.WrFull.calls _ _ l0 (wrap64 (a1)) (wrap64 (a3)) t105 t106 _ ?side1 ?side2 ?sideG A12.out).mono ?_); (case sideG => exact Given.Glob.below HG.out (by repeat (first | (with_reducible first | exact HB.out | apply below_alloc | apply pw_below_drewN | apply below_drew1) | exact HB.out))); (case side1 => repeat (first | exact (Kd.C_below HR0.out HB.out) | (with_reducible refine Kd.C_alloc ?_ _) | (with_reducible refine Kd.C_drewN ?_ _) | (with_reducible refine Kd.C_drew ?_))); (case side2 => exact HC0.out); rintro e w45 ⟨rfl, hb⟩; refine ⟨_, rfl, ?_⟩; have n0_ := Aside0.mk (below_step (by repeat (first | (with_reducible first | exact HB.out | apply below_alloc | apply pw_below_drewN | apply below_drew1) | exact HB.out)) hb); clear HB; have HB := n0_; clear n0_; (try clear hb); (try clear hb2); (try clear hk); (try clear hi)) | ((with_reducible refine gate_dst (N := 52) rfl ?_); refine Kd.R_lit Kd.string _ 9 ?hg (N := 52) ?hd (xs := ([x9_1] : List ByteArray)) (inner := [.string x9_1]) (ok := fun _ => True) (okp := fun _ => True) ?hr ?hp (fun _ hk => hk) trivial (Below.refl _ _) (Nat.le_refl _) (by simp) ?_; (case hd => rfl); (case hg => rfl); (case hr => first | (go_simp; done) | (go_simp; rfl)); (case hp => exact (Reps.one (show Kd.M Kd.string _ _ _ x9_1 [.string x9_1] from rfl) (Reps.none _ _))); intro v108 w46 ho47 hb hg_ hnew_; clear hg_ hnew_; (first | rw [← Ny107.out] at ho47 | (simp only [Int.reduceToNat] at ho47; rw [← Ny107.out] at ho47)); have n0_ := Aside0.mk (Kd.R_lower ho47 (below_size (by repeat (first | (with_reducible first | exact HB.out | apply below_alloc | apply pw_below_drewN | apply below_drew1) | exact HB.out)))); have n1_ := Aside0.mk (below_step (by repeat (first | (with_reducible first | exact HB.out | apply below_alloc | apply pw_below_drewN | apply below_drew1) | exact HB.out)) hb); clear HB; have HO109 := n0_; have HB := n1_; clear n0_ n1_; clear hb ho47; obtain ⟨Ao48, co48, eo48⟩ := Kd.R_slice HO109.out; subst eo48) | ((with_reducible refine gate_callee (f := 7) rfl ?_); refine goesL_ (some 57) rfl rfl Tryd.func7 (by kernel_rfl) rfl #[.slice Ao48 y107.length co48, .int .i64 (wrap64 (a2)), .int .i64 (wrap64 (a3))] rfl (by (try simp only [List.map_toArray, List.map_cons, List.map_nil]); first | done | rfl | (simp only [List.length_drop, List.length_take]; rfl)) ?_; (with_reducible refine (Given.WrFull.calls _ _ y107 (wrap64 (a2)) (wrap64 (a3)) t110 t111 _ ?side1 ?side2 ?sideG A13.out).mono ?_); (case sideG => exact Given.Glob.below HG.out (by repeat (first | (with_reducible first | exact HB.out | apply below_alloc | apply pw_below_drewN | apply below_drew1) | exact HB.out))); (case side1 => repeat (first | exact (Kd.R_reads' HO109.out).2.2 | (with_reducible refine Kd.C_alloc ?_ _) | (with_reducible refine Kd.C_drewN ?_ _) | (with_reducible refine Kd.C_drew ?_))); (case side2 => exact (Kd.R_reads' HO109.out).2.1); rintro e w49 ⟨rfl, hb⟩; refine ⟨_, rfl, ?_⟩; have n0_ := Aside0.mk (Kd.R_below (by (with_reducible repeat (first | apply Kd.R_alloc | apply Kd.R_drewN | apply Kd.R_drew)); exact HO109.out) hb); have n1_ := Aside0.mk (below_step (by repeat (first | (with_reducible first | exact HB.out | apply below_alloc | apply pw_below_drewN | apply below_drew1) | exact HB.out)) hb); clear HO109; clear HB; have HO109 := n0_; have HB := n1_; clear n0_ n1_; (try clear hb); (try clear hb2); (try clear hk); (try clear hi)) | ((with_reducible refine gate_dst (N := 61) rfl ?_); refine Kd.R_lit Kd.string _ 9 ?hg (N := 61) ?hd (xs := ([(⟨#[97, 98]⟩ : ByteArray), (⟨#[99]⟩ : ByteArray)] : List ByteArray)) (inner := [.string (⟨#[97, 98]⟩ : ByteArray), .string (⟨#[99]⟩ : ByteArray)]) (ok := fun _ => True) (okp := fun _ => True) ?hr ?hp (fun _ hk => hk) trivial (Below.refl _ _) (Nat.le_refl _) (by simp) ?_; (case hd => rfl); (case hg => rfl); (case hr => first | (go_simp; done) | (go_simp; rfl)); (case hp => exact (Reps.one (show Kd.M Kd.string _ _ _ (⟨#[97, 98]⟩ : ByteArray) [.string (⟨#[97, 98]⟩ : ByteArray)] from rfl) (Reps.one (show Kd.M Kd.string _ _ _ (⟨#[99]⟩ : ByteArray) [.string (⟨#[99]⟩ : ByteArray)] from rfl) (Reps.none _ _)))); intro v113 w50 ho51 hb hg_ hnew_; clear hg_ hnew_; (first | rw [← Ny112.out] at ho51 | (simp only [Int.reduceToNat] at ho51; rw [← Ny112.out] at ho51)); have n0_ := Aside0.mk (Kd.R_elder' (by (with_reducible repeat (first | apply Kd.R_alloc | apply Kd.R_drewN | apply Kd.R_drew)); exact HO109.out) (Kd.R_base ho51) hb); have n1_ := Aside0.mk (Kd.R_lower (Kd.R_new' ho51 (Kd.R_lt (by (with_reducible repeat (first | apply Kd.R_alloc | apply Kd.R_drewN | apply Kd.R_drew)); exact HO109.out))) (below_size (by repeat (first | (with_reducible first | exact HB.out | apply below_alloc | apply pw_below_drewN | apply below_drew1) | exact HB.out)))); have n2_ := Aside0.mk (below_step (by repeat (first | (with_reducible first | exact HB.out | apply below_alloc | apply pw_below_drewN | apply below_drew1) | exact HB.out)) hb); clear HO109; clear HB; have HO109 := n0_; have HO114 := n1_; have HB := n2_; clear n0_ n1_ n2_; clear hb ho51; obtain ⟨Ao52, co52, eo52⟩ := Kd.R_slice HO114.out; subst eo52) | ((with_reducible refine gate_callee (f := 7) rfl ?_); refine goesL_ (some 62) rfl rfl Tryd.func7 (by kernel_rfl) rfl #[.slice Ao52 y112.length co52, .int .i64 1, .int .i64 3] rfl (by (try simp only [List.map_toArray, List.map_cons, List.map_nil]); first | done | rfl | (simp only [List.length_drop, List.length_take]; rfl)) ?_; (with_reducible refine (Given.WrFull.calls _ _ y112 1 3 t115 t116 _ ?side1 ?side2 ?sideG A14.out).mono ?_); (case sideG => exact Given.Glob.below HG.out (by repeat (first | (with_reducible first | exact HB.out | apply below_alloc | apply pw_below_drewN | apply below_drew1) | exact HB.out))); (case side1 => repeat (first | exact (Kd.R_reads' HO114.out).2.2 | (with_reducible refine Kd.C_alloc ?_ _) | (with_reducible refine Kd.C_drewN ?_ _) | (with_reducible refine Kd.C_drew ?_))); (case side2 => exact (Kd.R_reads' HO114.out).2.1); rintro e w53 ⟨rfl, hb⟩; refine ⟨_, rfl, ?_⟩; have n0_ := Aside0.mk (Kd.R_below (by (with_reducible repeat (first | apply Kd.R_alloc | apply Kd.R_drewN | apply Kd.R_drew)); exact HO109.out) hb); have n1_ := Aside0.mk (Kd.R_below (by (with_reducible repeat (first | apply Kd.R_alloc | apply Kd.R_drewN | apply Kd.R_drew)); exact HO114.out) hb); have n2_ := Aside0.mk (below_step (by repeat (first | (with_reducible first | exact HB.out | apply below_alloc | apply pw_below_drewN | apply below_drew1) | exact HB.out)) hb); clear HO109; clear HO114; clear HB; have HO109 := n0_; have HO114 := n1_; have HB := n2_; clear n0_ n1_ n2_; (try clear hb); (try clear hb2); (try clear hk); (try clear hi)))
              go_ret
              exact ⟨by first | rfl | (simp [errW_none, errW_some] <;> rfl) | (simp [*, errW_none, errW_some] <;> rfl), by repeat (first | (with_reducible first | exact HB.out | apply below_alloc | apply pw_below_drewN | apply below_drew1) | exact HB.out)⟩
  · replace c6 := Bool.eq_false_iff.mpr c6
    subst c6
    have H1 : (some true) = some r := by rw [if_neg (show ¬ (false = true) by decide)] at H; exact H
    clear H
    have H := H1
    clear H1
    obtain rfl := Option.some.inj H
    go_enter Tryd.func4, Tryd.ntmps4
    go_wp2_with (first | ((with_reducible refine gate_callee (f := 9) rfl ?_); refine goesL_ (some 18) rfl rfl Tryd.func9 (by kernel_rfl) rfl #[.slice A0 l0.length c0] rfl (by (try simp only [List.map_toArray, List.map_cons, List.map_nil]); first | done | rfl | (simp only [List.length_drop, List.length_take]; rfl)) ?_; (with_reducible refine (laws_zzFits5.calls k _ _ l0 false _ ?side1 ?side2 A5.out).mono ?_); (case side1 => repeat (first | exact HR0.out | (with_reducible refine Kd.C_alloc ?_ _) | (with_reducible refine Kd.C_drewN ?_ _) | (with_reducible refine Kd.C_drew ?_))); (case side2 => exact HC0.out); rintro e w' ⟨rfl, ⟨nd, rfl⟩⟩; refine ⟨_, rfl, ?_⟩))
    go_ret
    exact ⟨by first | rfl | (simp [errW_none, errW_some] <;> rfl) | (simp [*, errW_none, errW_some] <;> rfl), by repeat (first | (with_reducible first | exact HB.out | apply below_alloc | apply pw_below_drewN | apply below_drew1) | exact HB.out)⟩

end Go.Proofs.YtdooimdefmegaaaDoor.PWp

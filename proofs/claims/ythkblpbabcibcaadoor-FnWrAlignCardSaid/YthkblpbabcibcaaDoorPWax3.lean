-- Written by a program of this session (wip/tools/myprint.py) for this claim.
import Derived.Test.YthkblpbabcibcaaDoorPWax0
import Derived.Test.YthkblpbabcibcaaDoorPWax2
namespace Go.Proofs.YthkblpbabcibcaaDoor.PWa
open Go.RowKit Go.Proofs.YthkblpbabcibcaaDoorW.PrintWords Go.Proofs.YthkblpbabcibcaaDoorW.PrintLast Go.Proofs.YthkblpbabcibcaaDoorW.PrintMore
attribute [local go_sem] max2_int min2_int max_two min_two max_three min_three max_four min_four   -- for this text's walks alone
set_option linter.unusedVariables false
set_option linter.unusedSimpArgs false

/-! ### spec_complete: function 9 -/
def spec_complete.f (k : Nat) (a0 : ByteArray) : Option (Int) := (spec_Complete.f k a0 32 32 32).bind fun t106 => (some t106)
theorem spec_complete.mono : ∀ a0 k, LeO (spec_complete.f k a0) (spec_complete.f (k + 1) a0) := by
  intro a0 k
  unfold spec_complete.f
  repeat' first
      | (with_reducible exact spec_Complete.mono _ _ _ _ _)
      | (with_reducible exact LeO.refl _)
      | (with_reducible exact LeO.none _)
      | (with_reducible refine LeO.ite ?_ ?_)
      | (with_reducible refine LeO.bind ?_ (fun _ => ?_))
      | exact spec_Complete.mono _ _ _ _ _
      | exact LeO.none _
      | refine LeO.ite ?_ ?_
      | refine LeO.bind ?_ (fun _ => ?_)
set_option maxHeartbeats 8000000 in
set_option maxRecDepth 100000 in
theorem spec_complete.calls (k : Nat) (a0 : ByteArray) (r : Int) (w : World) (h : spec_complete.f k a0 = some r) :
    Calls Tryd.prog 9 #[.string a0] w fun e w' => e = .returned (.int .i64 r) ∧ Drawn0 w w' := by
  have H : ((spec_Complete.f k a0 32 32 32).bind fun t106 => (some t106)) = some r := h
  clear h
  replace H := Option.bind_eq_some_iff.mp H
  obtain ⟨t106, A20, H⟩ := H
  replace H : (some t106) = some r := H
  have A2 := Aside0.mk A20
  clear A20
  obtain rfl := Option.some.inj H
  go_enter Tryd.func9, Tryd.ntmps9
  go_wp2_with (first | ((with_reducible refine gate_callee (f := 13) rfl ?_); refine goesL_ (some 4) rfl rfl Tryd.func13 (by kernel_rfl) rfl #[.string a0, .int .i64 32, .int .i64 32, .int .i64 32] rfl (by (try simp only [List.map_toArray, List.map_cons, List.map_nil]); first | done | rfl | (simp only [List.length_drop, List.length_take]; rfl)) ?_; (with_reducible refine (spec_Complete.calls k a0 32 32 32 t106 _ A2.out).mono ?_); rintro e w' ⟨rfl, ⟨nd, rfl⟩⟩; refine ⟨_, rfl, ?_⟩))
  go_ret
  exact ⟨by first | rfl | (simp; done) | (simp [*]; done), by repeat (first | exact Drawn0.refl _ | apply Drawn0.step)⟩

/-! ### spec_Types: function 7 -/
def spec_Types.l0 : Nat → ByteArray → List ByteArray → Option (List ByteArray × Bool)
  | 0, _, _ => none
  | k + 1, x0, x4 => if x0.toList = ([] : List UInt8) then (some (x4, true)) else ((spec_complete.f k x0).bind fun t107 => (if t107 = 0 then (some (([] : List ByteArray), false)) else (if 0 ≤ t107 then (if t107 ≤ (x0.size : Int) then (if x4.length < 8796093022208 then (spec_Types.l0 k (x0.extract (t107 : Int).toNat x0.size) (x4 ++ [x0.extract 0 (t107 : Int).toNat])) else (none)) else (none)) else (none))))
def spec_Types.f (k : Nat) (a0 : ByteArray) : Option (List ByteArray × Bool) := if (a0.size : Int) > 255 then (some (([] : List ByteArray), false)) else (spec_Types.l0 k a0 ([] : List ByteArray))
theorem spec_Types.mono_l : ∀ k, (∀ y0 y1, LeO (spec_Types.l0 k y0 y1) (spec_Types.l0 (k + 1) y0 y1))
  | 0 => fun _ _ r h => by simp [spec_Types.l0] at h
  | k + 1 => by
    have ih0 := spec_Types.mono_l k
    · intro y0 y1
      unfold spec_Types.l0
      repeat' first
      | (with_reducible exact ih0 _ _)
      | (with_reducible exact spec_complete.mono _ _)
      | (with_reducible exact LeO.refl _)
      | (with_reducible exact LeO.none _)
      | (with_reducible refine LeO.ite ?_ ?_)
      | (with_reducible refine LeO.bind ?_ (fun _ => ?_))
      | exact ih0 _ _
      | exact spec_complete.mono _ _
      | exact LeO.none _
      | refine LeO.ite ?_ ?_
      | refine LeO.bind ?_ (fun _ => ?_)
theorem spec_Types.mono : ∀ a0 k, LeO (spec_Types.f k a0) (spec_Types.f (k + 1) a0) := by
  intro a0 k
  have ih0 := spec_Types.mono_l k
  unfold spec_Types.f
  repeat' first
      | (with_reducible exact ih0 _ _)
      | (with_reducible exact spec_complete.mono _ _)
      | (with_reducible exact LeO.refl _)
      | (with_reducible exact LeO.none _)
      | (with_reducible refine LeO.ite ?_ ?_)
      | (with_reducible refine LeO.bind ?_ (fun _ => ?_))
      | exact ih0 _ _
      | exact spec_complete.mono _ _
      | exact LeO.none _
      | refine LeO.ite ?_ ?_
      | refine LeO.bind ?_ (fun _ => ?_)
set_option maxHeartbeats 8000000 in
set_option maxRecDepth 100000 in
theorem spec_Types.calls (k : Nat) (a0 : ByteArray) (r1 : List ByteArray) (r2 : Bool) (w : World) (h : spec_Types.f k a0 = some (r1, r2)) :
    Calls Tryd.prog 7 #[.string a0] w fun e w' => ∃ v0_ : Value, e = .returned (.tuple #[v0_, .bool r2]) ∧ Kd.R Kd.string 9 w' w.heap.size (fun _ => True) v0_ r1 ∧ Below w.heap.size w w' := by
  have HB := Aside0.mk (Below.refl w.heap.size w)
  have H : (if (a0.size : Int) > 255 then (some (([] : List ByteArray), false)) else (spec_Types.l0 k a0 ([] : List ByteArray))) = some (r1, r2) := h
  clear h
  by_cases c2 : (a0.size : Int) > 255
  · rw [if_pos c2] at H
    have c2b0 : decide (255 < (a0.size : Int)) = true := decide_eq_true c2
    have c2b1 : decide (255 < a0.size) = true := decide_eq_true (by omega)
    clear c2
    simp only [Option.some.injEq, Prod.mk.injEq] at H
    obtain ⟨rfl, rfl⟩ := H
    go_enter Tryd.func7, Tryd.ntmps7
    go_wp2
    go_ret2
    exact ⟨_, by first | rfl | (simp [errW_none, errW_some] <;> rfl) | (simp [*, errW_none, errW_some] <;> rfl), by first | exact Kd.R_nil _ _ _ _ _ | exact Kd.N_nil _ _ _ _ _ | exact Kd.V_nil _ _ _ _ _ | exact Kd.Q_nil _ _ _ _ _ | exact Kd.S_nil _ _ _ _ _, by repeat (first | (with_reducible first | exact HB.out | apply below_alloc | apply pw_below_drewN | apply below_drew1) | exact HB.out)⟩
  · rw [if_neg c2] at H
    have c2b0 : decide (255 < (a0.size : Int)) = false := decide_eq_false c2
    have c2b1 : decide (255 < a0.size) = false := decide_eq_false (by omega)
    clear c2
    have H' := Aside0.mk H
    clear H
    go_enter Tryd.func7, Tryd.ntmps7
    go_wp2
    go_loopg [0, 4] k (fun kq v0 v4 w' => ∃ (x0_1 : ByteArray) (x4_1 : List ByteArray), v0 = .string x0_1 ∧ Aside0 (spec_Types.l0 kq x0_1 x4_1 = some (r1, r2)) ∧ Aside0 (kq ≤ k) ∧ Aside0 (Kd.R Kd.string 9 w' w.heap.size (fun _ => True) v4 x4_1) ∧ Aside0 (Below w.heap.size w w'))
    case atStart => exact ⟨(a0), (([] : List ByteArray)), (by first | rfl | (simp; done) | (simp [*]; done)), H', ⟨Nat.le_refl _⟩, ⟨by first | exact Kd.R_nil _ _ _ _ _ | exact Kd.N_nil _ _ _ _ _ | exact Kd.V_nil _ _ _ _ _ | exact Kd.Q_nil _ _ _ _ _ | exact Kd.S_nil _ _ _ _ _⟩, ⟨by repeat (first | (with_reducible first | exact HB.out | apply below_alloc | apply pw_below_drewN | apply below_drew1) | exact HB.out)⟩⟩
    case round =>
      clear H'
      try clear c2
      try clear c2b0
      try clear c2b1
      try clear p2
      obtain ⟨x0_1, x4_1, rfl, HA, HK1, HO_4, HB⟩ := hrel
      cases gk with
      | zero => exact absurd HA.out (by simp [spec_Types.l0])
      | succ k1 =>
        have H := HA.out
        clear HA
        simp only [spec_Types.l0] at H
        by_cases c3 : x0_1.toList = ([] : List UInt8)
        · rw [if_pos c3] at H
          have c3b0 : (x0_1.toList == ([] : List UInt8)) = true := beq_iff_eq.mpr c3
          have c3b1 : (x0_1.toList != ([] : List UInt8)) = false := bne_eq_false_iff_eq.mpr c3
          clear c3
          simp only [Option.some.injEq, Prod.mk.injEq] at H
          obtain ⟨rfl, rfl⟩ := H
          go_wp2
          go_ret2
          exact ⟨_, by first | rfl | (simp [errW_none, errW_some] <;> rfl) | (simp [*, errW_none, errW_some] <;> rfl), by (with_reducible repeat (first | apply Kd.R_alloc | apply Kd.R_drewN | apply Kd.R_drew)); exact HO_4.out, by repeat (first | (with_reducible first | exact HB.out | apply below_alloc | apply pw_below_drewN | apply below_drew1) | exact HB.out)⟩
        · rw [if_neg c3] at H
          have c3b0 : (x0_1.toList == ([] : List UInt8)) = false := beq_eq_false_iff_ne.mpr c3
          have c3b1 : (x0_1.toList != ([] : List UInt8)) = true := bne_iff_ne.mpr c3
          replace H := Option.bind_eq_some_iff.mp H
          obtain ⟨t107, A40, H⟩ := H
          replace H : (if t107 = 0 then (some (([] : List ByteArray), false)) else (if 0 ≤ t107 then (if t107 ≤ (x0_1.size : Int) then (if x4_1.length < 8796093022208 then (spec_Types.l0 k1 (x0_1.extract (t107 : Int).toNat x0_1.size) (x4_1 ++ [x0_1.extract 0 (t107 : Int).toNat])) else (none)) else (none)) else (none))) = some (r1, r2) := H
          have A4 := Aside0.mk A40
          clear A40
          by_cases c5 : t107 = 0
          · rw [if_pos c5] at H
            have c5b0 : (t107 == 0) = true := beq_iff_eq.mpr c5
            have c5b1 : (t107 != 0) = false := bne_eq_false_iff_eq.mpr c5
            clear c5
            simp only [Option.some.injEq, Prod.mk.injEq] at H
            obtain ⟨rfl, rfl⟩ := H
            go_wp2_with (first | ((with_reducible refine gate_callee (f := 9) rfl ?_); refine goesL_ (some 12) rfl rfl Tryd.func9 (by kernel_rfl) rfl #[.string x0_1] rfl (by (try simp only [List.map_toArray, List.map_cons, List.map_nil]); first | done | rfl | (simp only [List.length_drop, List.length_take]; rfl)) ?_; (with_reducible refine (spec_complete.calls k1 x0_1 t107 _ A4.out).mono ?_); rintro e w' ⟨rfl, ⟨nd, rfl⟩⟩; refine ⟨_, rfl, ?_⟩))
            go_ret2
            exact ⟨_, by first | rfl | (simp [errW_none, errW_some] <;> rfl) | (simp [*, errW_none, errW_some] <;> rfl), by first | exact Kd.R_nil _ _ _ _ _ | exact Kd.N_nil _ _ _ _ _ | exact Kd.V_nil _ _ _ _ _ | exact Kd.Q_nil _ _ _ _ _ | exact Kd.S_nil _ _ _ _ _, by repeat (first | (with_reducible first | exact HB.out | apply below_alloc | apply pw_below_drewN | apply below_drew1) | exact HB.out)⟩
          · rw [if_neg c5] at H
            have c5b0 : (t107 == 0) = false := beq_eq_false_iff_ne.mpr c5
            have c5b1 : (t107 != 0) = true := bne_iff_ne.mpr c5
            by_cases c6 : 0 ≤ t107
            · rw [if_pos c6] at H
              have c6b0 := eq_true c6
              have c6b1 : decide (0 ≤ t107) = true := decide_eq_true c6
              clear c6
              by_cases c7 : t107 ≤ (x0_1.size : Int)
              · rw [if_pos c7] at H
                have c7b0 := eq_true c7
                have c7b1 : decide (t107 ≤ (x0_1.size : Int)) = true := decide_eq_true c7
                clear c7
                by_cases c8 : x4_1.length < 8796093022208
                · rw [if_pos c8] at H
                  have LMc8 := Aside0.mk c8
                  clear c8
                  obtain ⟨y108, hy108⟩ : ∃ y_ : List ByteArray, y_ = (x4_1 ++ [x0_1.extract 0 (t107 : Int).toNat]) := ⟨_, rfl⟩
                  replace H : (spec_Types.l0 k1 (x0_1.extract (t107 : Int).toNat x0_1.size) y108) = some (r1, r2) := by first | (rw [hy108]; with_reducible exact H) | (have H2_ := (Option.bind_some _ _).symm.trans H; rw [hy108]; with_reducible exact H2_) | (have H2_ := (Option.bind_some _ _).symm.trans H; with_reducible exact H2_) | with_reducible exact H | (rw [hy108]; exact H) | exact H
                  have Ny108 := Aside0.mk hy108
                  clear hy108
                  have c9b0 := eq_true (of_decide_eq_true (by first | (with_reducible assumption) | assumption) : 0 ≤ t107)
                  have c10b0 := eq_true (of_decide_eq_true (by first | (with_reducible assumption) | assumption) : t107 ≤ (x0_1.size : Int))
                  have H' := Aside0.mk H
                  clear H
                  go_wp2_with (first | ((with_reducible refine gate_callee (f := 9) rfl ?_); refine goesL_ (some 12) rfl rfl Tryd.func9 (by kernel_rfl) rfl #[.string x0_1] rfl (by (try simp only [List.map_toArray, List.map_cons, List.map_nil]); first | done | rfl | (simp only [List.length_drop, List.length_take]; rfl)) ?_; (with_reducible refine (spec_complete.calls k1 x0_1 t107 _ A4.out).mono ?_); rintro e w' ⟨rfl, ⟨nd, rfl⟩⟩; refine ⟨_, rfl, ?_⟩) | ((with_reducible refine gate_builtin (b := .append) (xs := #[.tmp 15, .tmp 19]) rfl ?_); at_builtin; refine Kd.R_append Kd.string (w0 := w) w.heap.size rfl (.tmp 15) (.tmp 19) 26 9 (.string ⟨#[]⟩) 16 rfl Tryd.underlying26 info9 rfl (by decide) (by omega) u4 x4_1 (x0_1.extract 0 (t107 : Int).toNat) [.string (x0_1.extract 0 (t107 : Int).toNat)] (fun _ => True) (fun _ => False) rfl rfl ?aP (fun _ hk => hk.elim) ?aF ?aO ?aB ?aS ?aL ?_; (case aP => exact rfl); (case aB => exact (by repeat (first | (with_reducible first | exact HB.out | apply below_alloc | apply pw_below_drewN | apply below_drew1) | exact HB.out))); (case aF => exact (fun _ _ => trivial)); (case aO => exact (by (with_reducible repeat (first | apply Kd.R_alloc | apply Kd.R_drewN | apply Kd.R_drew)); exact HO_4.out)); (case aS => exact (below_size (by repeat (first | (with_reducible first | exact HB.out | apply below_alloc | apply pw_below_drewN | apply below_drew1) | exact HB.out)))); (case aL => have := LMc8.out; omega); intro v109 w11 ho hb hg hat; rw [← Ny108.out] at ho; have n0_ := Aside0.mk (hb); have n1_ := Aside0.mk (ho); clear HB; clear HO_4; have HB := n0_; have HO110 := n1_; clear n0_ n1_; clear ho hb hg hat))
                  go_roundg k1
                  case measure => have := HK1.out; omega
                  case rel => exact ⟨(x0_1.extract (t107 : Int).toNat x0_1.size), (y108), (by first | rfl | (simp; done) | (simp [*]; done)), H', ⟨by have := HK1.out; omega⟩, ⟨by (with_reducible repeat (first | apply Kd.R_alloc | apply Kd.R_drewN | apply Kd.R_drew)); exact HO110.out⟩, ⟨by repeat (first | (with_reducible first | exact HB.out | apply below_alloc | apply pw_below_drewN | apply below_drew1) | exact HB.out)⟩⟩
                · rw [if_neg c8] at H
                  exact absurd H (by simp)
              · rw [if_neg c7] at H
                exact absurd H (by simp)
            · rw [if_neg c6] at H
              exact absurd H (by simp)

/-! ### spec_Single: function 4 -/
def spec_Single.f (k : Nat) (a0 : ByteArray) : Option (Bool) := (spec_Types.f k a0).bind fun bt111 => (if bt111.2 = true then (some ((bt111.1.length : Int) == 1)) else (some false))
theorem spec_Single.mono : ∀ a0 k, LeO (spec_Single.f k a0) (spec_Single.f (k + 1) a0) := by
  intro a0 k
  unfold spec_Single.f
  repeat' first
      | (with_reducible exact spec_Types.mono _ _)
      | (with_reducible exact LeO.refl _)
      | (with_reducible exact LeO.none _)
      | (with_reducible refine LeO.ite ?_ ?_)
      | (with_reducible refine LeO.bind ?_ (fun _ => ?_))
      | exact spec_Types.mono _ _
      | exact LeO.none _
      | refine LeO.ite ?_ ?_
      | refine LeO.bind ?_ (fun _ => ?_)
set_option maxHeartbeats 8000000 in
set_option maxRecDepth 100000 in
theorem spec_Single.calls (k : Nat) (a0 : ByteArray) (r : Bool) (w : World) (h : spec_Single.f k a0 = some r) :
    Calls Tryd.prog 4 #[.string a0] w fun e w' => e = .returned (.bool r) ∧ Below w.heap.size w w' := by
  have HB := Aside0.mk (Below.refl w.heap.size w)
  have H : ((spec_Types.f k a0).bind fun bt111 => (if bt111.2 = true then (some ((bt111.1.length : Int) == 1)) else (some false))) = some r := h
  clear h
  replace H := Option.bind_eq_some_iff.mp H
  obtain ⟨⟨t111, t112⟩, A20, H⟩ := H
  replace H : (if t112 = true then (some ((t111.length : Int) == 1)) else (some false)) = some r := H
  have A2 := Aside0.mk A20
  clear A20
  by_cases c3 : t112 = true
  · subst c3
    have H1 : (some ((t111.length : Int) == 1)) = some r := by rw [if_pos rfl] at H; exact H
    clear H
    have H := H1
    clear H1
    obtain rfl := Option.some.inj H
    go_enter Tryd.func4, Tryd.ntmps4
    go_wp2_with (first | ((with_reducible refine gate_callee (f := 7) rfl ?_); refine goesL_ (some 7) rfl rfl Tryd.func7 (by kernel_rfl) rfl #[.string a0] rfl (by (try simp only [List.map_toArray, List.map_cons, List.map_nil]); first | done | rfl | (simp only [List.length_drop, List.length_take]; rfl)) ?_; (with_reducible refine (spec_Types.calls k a0 t111 true _ A2.out).mono ?_); rintro e w4 ⟨v113, rfl, ho0, hb⟩; refine ⟨_, rfl, ?_⟩; have n0_ := Aside0.mk (Kd.R_lower ho0 (below_size (by repeat (first | (with_reducible first | exact HB.out | apply below_alloc | apply pw_below_drewN | apply below_drew1) | exact HB.out)))); have n1_ := Aside0.mk (below_step (by repeat (first | (with_reducible first | exact HB.out | apply below_alloc | apply pw_below_drewN | apply below_drew1) | exact HB.out)) hb); clear HB; have HO114 := n0_; have HB := n1_; clear n0_ n1_; (try clear hb); (try clear hb2); (try clear hk); (try clear hi); (try clear ho0); obtain ⟨Ao5, co5, eo5⟩ := Kd.R_slice HO114.out; subst eo5))
    go_ret
    exact ⟨by first | rfl | (simp [errW_none, errW_some] <;> rfl) | (simp [*, errW_none, errW_some] <;> rfl), by repeat (first | (with_reducible first | exact HB.out | apply below_alloc | apply pw_below_drewN | apply below_drew1) | exact HB.out)⟩
  · replace c3 := Bool.eq_false_iff.mpr c3
    subst c3
    have H1 : (some false) = some r := by rw [if_neg (show ¬ (false = true) by decide)] at H; exact H
    clear H
    have H := H1
    clear H1
    obtain rfl := Option.some.inj H
    go_enter Tryd.func4, Tryd.ntmps4
    go_wp2_with (first | ((with_reducible refine gate_callee (f := 7) rfl ?_); refine goesL_ (some 7) rfl rfl Tryd.func7 (by kernel_rfl) rfl #[.string a0] rfl (by (try simp only [List.map_toArray, List.map_cons, List.map_nil]); first | done | rfl | (simp only [List.length_drop, List.length_take]; rfl)) ?_; (with_reducible refine (spec_Types.calls k a0 t111 false _ A2.out).mono ?_); rintro e w6 ⟨v113, rfl, ho0, hb⟩; refine ⟨_, rfl, ?_⟩; have n0_ := Aside0.mk (Kd.R_lower ho0 (below_size (by repeat (first | (with_reducible first | exact HB.out | apply below_alloc | apply pw_below_drewN | apply below_drew1) | exact HB.out)))); have n1_ := Aside0.mk (below_step (by repeat (first | (with_reducible first | exact HB.out | apply below_alloc | apply pw_below_drewN | apply below_drew1) | exact HB.out)) hb); clear HB; have HO114 := n0_; have HB := n1_; clear n0_ n1_; (try clear hb); (try clear hb2); (try clear hk); (try clear hi); (try clear ho0)))
    go_ret
    exact ⟨by first | rfl | (simp [errW_none, errW_some] <;> rfl) | (simp [*, errW_none, errW_some] <;> rfl), by repeat (first | (with_reducible first | exact HB.out | apply below_alloc | apply pw_below_drewN | apply below_drew1) | exact HB.out)⟩

/-! ### spec_Align: function 5 -/
mutual
def spec_Align.j0 : Nat → Int → Bool → Option (Int)
  | 0, _, _ => none
  | k + 1, x3, x4 => if x4 = true then (some 2) else (if x3 = 98 then (spec_Align.j1 k x3 (x3 == 98)) else (if x3 = 105 then (spec_Align.j1 k x3 (x3 == 105)) else (if x3 = 117 then (spec_Align.j1 k x3 (x3 == 117)) else (if x3 = 115 then (spec_Align.j1 k x3 (x3 == 115)) else (if x3 = 111 then (spec_Align.j1 k x3 (x3 == 111)) else (if x3 = 97 then (spec_Align.j1 k x3 (x3 == 97)) else (spec_Align.j1 k x3 (x3 == 104))))))))
def spec_Align.j1 : Nat → Int → Bool → Option (Int)
  | 0, _, _ => none
  | k + 1, x3, x7 => if x7 = true then (some 4) else (if x3 = 120 then (some 8) else (if x3 = 116 then (some 8) else (if x3 = 100 then (some 8) else (if x3 = 40 then (some 8) else (if x3 = 123 then (some 8) else (some 1))))))
end
def spec_Align.f (k : Nat) (a0 : Int) : Option (Int) := if a0 = 110 then (spec_Align.j0 k a0 (a0 == 110)) else (spec_Align.j0 k a0 (a0 == 113))
theorem spec_Align.mono_l : ∀ k, (∀ y0 y1, LeO (spec_Align.j0 k y0 y1) (spec_Align.j0 (k + 1) y0 y1)) ∧ (∀ y0 y1, LeO (spec_Align.j1 k y0 y1) (spec_Align.j1 (k + 1) y0 y1))
  | 0 => ⟨fun _ _ r h => by simp [spec_Align.j0] at h, fun _ _ r h => by simp [spec_Align.j1] at h⟩
  | k + 1 => by
    obtain ⟨ih0, ih1⟩ := spec_Align.mono_l k
    refine ⟨?_, ?_⟩
    · intro y0 y1
      unfold spec_Align.j0
      repeat' first
      | (with_reducible exact ih0 _ _)
      | (with_reducible exact ih1 _ _)
      | (with_reducible exact LeO.refl _)
      | (with_reducible exact LeO.none _)
      | (with_reducible refine LeO.ite ?_ ?_)
      | (with_reducible refine LeO.bind ?_ (fun _ => ?_))
      | exact ih0 _ _
      | exact ih1 _ _
      | exact LeO.none _
      | refine LeO.ite ?_ ?_
      | refine LeO.bind ?_ (fun _ => ?_)
    · intro y0 y1
      unfold spec_Align.j1
      repeat' first
      | (with_reducible exact ih0 _ _)
      | (with_reducible exact ih1 _ _)
      | (with_reducible exact LeO.refl _)
      | (with_reducible exact LeO.none _)
      | (with_reducible refine LeO.ite ?_ ?_)
      | (with_reducible refine LeO.bind ?_ (fun _ => ?_))
      | exact ih0 _ _
      | exact ih1 _ _
      | exact LeO.none _
      | refine LeO.ite ?_ ?_
      | refine LeO.bind ?_ (fun _ => ?_)
theorem spec_Align.mono : ∀ a0 k, LeO (spec_Align.f k a0) (spec_Align.f (k + 1) a0) := by
  intro a0 k
  obtain ⟨ih0, ih1⟩ := spec_Align.mono_l k
  unfold spec_Align.f
  repeat' first
      | (with_reducible exact ih0 _ _)
      | (with_reducible exact ih1 _ _)
      | (with_reducible exact LeO.refl _)
      | (with_reducible exact LeO.none _)
      | (with_reducible refine LeO.ite ?_ ?_)
      | (with_reducible refine LeO.bind ?_ (fun _ => ?_))
      | exact ih0 _ _
      | exact ih1 _ _
      | exact LeO.none _
      | refine LeO.ite ?_ ?_
      | refine LeO.bind ?_ (fun _ => ?_)
set_option maxHeartbeats 8000000 in
set_option maxRecDepth 100000 in
theorem spec_Align.calls (k : Nat) (a0 : Int) (r : Int) (w : World) (h : spec_Align.f k a0 = some r) :
    Calls Tryd.prog 5 #[.int .u8 a0] w fun e w' => e = .returned (.int .i64 r) ∧ Drawn0 w w' := by
  have H : (if a0 = 110 then (spec_Align.j0 k a0 (a0 == 110)) else (spec_Align.j0 k a0 (a0 == 113))) = some r := h
  clear h
  have HC2 := Aside0.mk H
  clear H
  go_enter Tryd.func5, Tryd.ntmps5
  go_upto_if 4 with (fail)
  go_cut [4] (fun v4 wc => ∃ (kq : Nat) (x4_1 : Bool), v4 = .bool x4_1 ∧ Aside0 (spec_Align.j0 kq a0 x4_1 = some r) ∧ Aside0 (kq ≤ k) ∧ Drawn0 w wc)
  case first =>
    have H := HC2.out
    clear HC2
    by_cases c3 : a0 = 110
    · rw [if_pos c3] at H
      have c3b0 : (a0 == 110) = true := beq_iff_eq.mpr c3
      have c3b1 : (a0 != 110) = false := bne_eq_false_iff_eq.mpr c3
      clear c3
      (first | rw [c3b0] | (simp only [i64_w, i32_w]; rw [c3b0]) | skip)
      have H' := Aside0.mk H
      clear H
      go_wp2
      go_meet
      case rel => exact ⟨_, ((a0 == 110)), (by first | rfl | (simp; done) | (simp [*]; done)), H', ⟨by first | omega | exact Nat.le_refl _⟩, by repeat (first | exact Drawn0.refl _ | apply Drawn0.step)⟩
    · rw [if_neg c3] at H
      have c3b0 : (a0 == 110) = false := beq_eq_false_iff_ne.mpr c3
      have c3b1 : (a0 != 110) = true := bne_iff_ne.mpr c3
      (first | rw [c3b0] | (simp only [i64_w, i32_w]; rw [c3b0]) | skip)
      have H' := Aside0.mk H
      clear H
      go_wp2
      go_meet
      case rel => exact ⟨_, ((a0 == 113)), (by first | rfl | (simp; done) | (simp [*]; done)), H', ⟨by first | omega | exact Nat.le_refl _⟩, by repeat (first | exact Drawn0.refl _ | apply Drawn0.step)⟩
  case rest =>
    clear HC2
    try clear p2
    try clear c3
    try clear c3b0
    try clear c3b1
    obtain ⟨kq, x4_1, rfl, HA, HJ1, ⟨mc1, rfl⟩⟩ := hcut
    cases kq with
    | zero => exact absurd HA.out (by simp [spec_Align.j0])
    | succ kj1 =>
      have H := HA.out
      clear HA
      simp only [spec_Align.j0] at H
      by_cases c4 : x4_1 = true
      · subst c4
        have H1 : (some 2) = some r := by rw [if_pos rfl] at H; exact H
        clear H
        have H := H1
        clear H1
        obtain rfl := Option.some.inj H
        go_wp2
        go_ret
        exact ⟨by first | rfl | (simp; done) | (simp [*]; done), by repeat (first | exact Drawn0.refl _ | apply Drawn0.step)⟩
      · replace c4 := Bool.eq_false_iff.mpr c4
        subst c4
        have H1 : (if a0 = 98 then (spec_Align.j1 kj1 a0 (a0 == 98)) else (if a0 = 105 then (spec_Align.j1 kj1 a0 (a0 == 105)) else (if a0 = 117 then (spec_Align.j1 kj1 a0 (a0 == 117)) else (if a0 = 115 then (spec_Align.j1 kj1 a0 (a0 == 115)) else (if a0 = 111 then (spec_Align.j1 kj1 a0 (a0 == 111)) else (if a0 = 97 then (spec_Align.j1 kj1 a0 (a0 == 97)) else (spec_Align.j1 kj1 a0 (a0 == 104)))))))) = some r := by rw [if_neg (show ¬ (false = true) by decide)] at H; exact H
        clear H
        have H := H1
        clear H1
        have HC5 := Aside0.mk H
        clear H
        go_upto_if 7 with (fail)
        go_cut [7] (fun v7 wc => ∃ (kq : Nat) (x7_4 : Bool), v7 = .bool x7_4 ∧ Aside0 (spec_Align.j1 kq a0 x7_4 = some r) ∧ Aside0 (kq ≤ kj1) ∧ Drawn0 w wc)
        case first =>
          have H := HC5.out
          clear HC5
          by_cases c6 : a0 = 98
          · rw [if_pos c6] at H
            have c6b0 : (a0 == 98) = true := beq_iff_eq.mpr c6
            have c6b1 : (a0 != 98) = false := bne_eq_false_iff_eq.mpr c6
            clear c6
            (first | rw [c6b0] | (simp only [i64_w, i32_w]; rw [c6b0]) | skip)
            have H' := Aside0.mk H
            clear H
            go_wp2
            go_meet
            case rel => exact ⟨_, ((a0 == 98)), (by first | rfl | (simp; done) | (simp [*]; done)), H', ⟨by have := HJ1.out; first | omega | exact Nat.le_refl _⟩, by repeat (first | exact Drawn0.refl _ | apply Drawn0.step)⟩
          · rw [if_neg c6] at H
            have c6b0 : (a0 == 98) = false := beq_eq_false_iff_ne.mpr c6
            have c6b1 : (a0 != 98) = true := bne_iff_ne.mpr c6
            (first | rw [c6b0] | (simp only [i64_w, i32_w]; rw [c6b0]) | skip)
            by_cases c7 : a0 = 105
            · rw [if_pos c7] at H
              have c7b0 : (a0 == 105) = true := beq_iff_eq.mpr c7
              have c7b1 : (a0 != 105) = false := bne_eq_false_iff_eq.mpr c7
              clear c7
              have H' := Aside0.mk H
              clear H
              go_wp2
              go_meet
              case rel => exact ⟨_, ((a0 == 105)), (by first | rfl | (simp; done) | (simp [*]; done)), H', ⟨by have := HJ1.out; first | omega | exact Nat.le_refl _⟩, by repeat (first | exact Drawn0.refl _ | apply Drawn0.step)⟩
            · rw [if_neg c7] at H
              have c7b0 : (a0 == 105) = false := beq_eq_false_iff_ne.mpr c7
              have c7b1 : (a0 != 105) = true := bne_iff_ne.mpr c7
              by_cases c8 : a0 = 117
              · rw [if_pos c8] at H
                have c8b0 : (a0 == 117) = true := beq_iff_eq.mpr c8
                have c8b1 : (a0 != 117) = false := bne_eq_false_iff_eq.mpr c8
                clear c8
                have H' := Aside0.mk H
                clear H
                go_wp2
                go_meet
                case rel => exact ⟨_, ((a0 == 117)), (by first | rfl | (simp; done) | (simp [*]; done)), H', ⟨by have := HJ1.out; first | omega | exact Nat.le_refl _⟩, by repeat (first | exact Drawn0.refl _ | apply Drawn0.step)⟩
              · rw [if_neg c8] at H
                have c8b0 : (a0 == 117) = false := beq_eq_false_iff_ne.mpr c8
                have c8b1 : (a0 != 117) = true := bne_iff_ne.mpr c8
                by_cases c9 : a0 = 115
                · rw [if_pos c9] at H
                  have c9b0 : (a0 == 115) = true := beq_iff_eq.mpr c9
                  have c9b1 : (a0 != 115) = false := bne_eq_false_iff_eq.mpr c9
                  clear c9
                  have H' := Aside0.mk H
                  clear H
                  go_wp2
                  go_meet
                  case rel => exact ⟨_, ((a0 == 115)), (by first | rfl | (simp; done) | (simp [*]; done)), H', ⟨by have := HJ1.out; first | omega | exact Nat.le_refl _⟩, by repeat (first | exact Drawn0.refl _ | apply Drawn0.step)⟩
                · rw [if_neg c9] at H
                  have c9b0 : (a0 == 115) = false := beq_eq_false_iff_ne.mpr c9
                  have c9b1 : (a0 != 115) = true := bne_iff_ne.mpr c9
                  by_cases c10 : a0 = 111
                  · rw [if_pos c10] at H
                    have c10b0 : (a0 == 111) = true := beq_iff_eq.mpr c10
                    have c10b1 : (a0 != 111) = false := bne_eq_false_iff_eq.mpr c10
                    clear c10
                    have H' := Aside0.mk H
                    clear H
                    go_wp2
                    go_meet
                    case rel => exact ⟨_, ((a0 == 111)), (by first | rfl | (simp; done) | (simp [*]; done)), H', ⟨by have := HJ1.out; first | omega | exact Nat.le_refl _⟩, by repeat (first | exact Drawn0.refl _ | apply Drawn0.step)⟩
                  · rw [if_neg c10] at H
                    have c10b0 : (a0 == 111) = false := beq_eq_false_iff_ne.mpr c10
                    have c10b1 : (a0 != 111) = true := bne_iff_ne.mpr c10
                    by_cases c11 : a0 = 97
                    · rw [if_pos c11] at H
                      have c11b0 : (a0 == 97) = true := beq_iff_eq.mpr c11
                      have c11b1 : (a0 != 97) = false := bne_eq_false_iff_eq.mpr c11
                      clear c11
                      have H' := Aside0.mk H
                      clear H
                      go_wp2
                      go_meet
                      case rel => exact ⟨_, ((a0 == 97)), (by first | rfl | (simp; done) | (simp [*]; done)), H', ⟨by have := HJ1.out; first | omega | exact Nat.le_refl _⟩, by repeat (first | exact Drawn0.refl _ | apply Drawn0.step)⟩
                    · rw [if_neg c11] at H
                      have c11b0 : (a0 == 97) = false := beq_eq_false_iff_ne.mpr c11
                      have c11b1 : (a0 != 97) = true := bne_iff_ne.mpr c11
                      have H' := Aside0.mk H
                      clear H
                      go_wp2
                      go_meet
                      case rel => exact ⟨_, ((a0 == 104)), (by first | rfl | (simp; done) | (simp [*]; done)), H', ⟨by have := HJ1.out; first | omega | exact Nat.le_refl _⟩, by repeat (first | exact Drawn0.refl _ | apply Drawn0.step)⟩
        case rest =>
          clear HC5
          try clear c1
          try clear p2
          try clear c3
          try clear c3b0
          try clear c3b1
          try clear c4
          try clear c5
          try clear c6
          try clear c6b0
          try clear c6b1
          try clear c7
          try clear c7b0
          try clear c7b1
          try clear c8
          try clear c8b0
          try clear c8b1
          try clear c9
          try clear c9b0
          try clear c9b1
          try clear c10
          try clear c10b0
          try clear c10b1
          try clear c11
          try clear c11b0
          try clear c11b1
          try clear p2
          obtain ⟨kq, x7_4, rfl, HA, HJ4, ⟨mc4, rfl⟩⟩ := hcut
          cases kq with
          | zero => exact absurd HA.out (by simp [spec_Align.j1])
          | succ kj4 =>
            have H := HA.out
            clear HA
            simp only [spec_Align.j1] at H
            by_cases c12 : x7_4 = true
            · subst c12
              have H1 : (some 4) = some r := by rw [if_pos rfl] at H; exact H
              clear H
              have H := H1
              clear H1
              obtain rfl := Option.some.inj H
              go_wp2
              go_ret
              exact ⟨by first | rfl | (simp; done) | (simp [*]; done), by repeat (first | exact Drawn0.refl _ | apply Drawn0.step)⟩
            · replace c12 := Bool.eq_false_iff.mpr c12
              subst c12
              have H1 : (if a0 = 120 then (some 8) else (if a0 = 116 then (some 8) else (if a0 = 100 then (some 8) else (if a0 = 40 then (some 8) else (if a0 = 123 then (some 8) else (some 1)))))) = some r := by rw [if_neg (show ¬ (false = true) by decide)] at H; exact H
              clear H
              have H := H1
              clear H1
              by_cases c13 : a0 = 120
              · rw [if_pos c13] at H
                have c13b0 : (a0 == 120) = true := beq_iff_eq.mpr c13
                have c13b1 : (a0 != 120) = false := bne_eq_false_iff_eq.mpr c13
                clear c13
                obtain rfl := Option.some.inj H
                go_wp2
                go_ret
                exact ⟨by first | rfl | (simp; done) | (simp [*]; done), by repeat (first | exact Drawn0.refl _ | apply Drawn0.step)⟩
              · rw [if_neg c13] at H
                have c13b0 : (a0 == 120) = false := beq_eq_false_iff_ne.mpr c13
                have c13b1 : (a0 != 120) = true := bne_iff_ne.mpr c13
                by_cases c14 : a0 = 116
                · rw [if_pos c14] at H
                  have c14b0 : (a0 == 116) = true := beq_iff_eq.mpr c14
                  have c14b1 : (a0 != 116) = false := bne_eq_false_iff_eq.mpr c14
                  clear c14
                  obtain rfl := Option.some.inj H
                  go_wp2
                  go_ret
                  exact ⟨by first | rfl | (simp; done) | (simp [*]; done), by repeat (first | exact Drawn0.refl _ | apply Drawn0.step)⟩
                · rw [if_neg c14] at H
                  have c14b0 : (a0 == 116) = false := beq_eq_false_iff_ne.mpr c14
                  have c14b1 : (a0 != 116) = true := bne_iff_ne.mpr c14
                  by_cases c15 : a0 = 100
                  · rw [if_pos c15] at H
                    have c15b0 : (a0 == 100) = true := beq_iff_eq.mpr c15
                    have c15b1 : (a0 != 100) = false := bne_eq_false_iff_eq.mpr c15
                    clear c15
                    obtain rfl := Option.some.inj H
                    go_wp2
                    go_ret
                    exact ⟨by first | rfl | (simp; done) | (simp [*]; done), by repeat (first | exact Drawn0.refl _ | apply Drawn0.step)⟩
                  · rw [if_neg c15] at H
                    have c15b0 : (a0 == 100) = false := beq_eq_false_iff_ne.mpr c15
                    have c15b1 : (a0 != 100) = true := bne_iff_ne.mpr c15
                    by_cases c16 : a0 = 40
                    · rw [if_pos c16] at H
                      have c16b0 : (a0 == 40) = true := beq_iff_eq.mpr c16
                      have c16b1 : (a0 != 40) = false := bne_eq_false_iff_eq.mpr c16
                      clear c16
                      obtain rfl := Option.some.inj H
                      go_wp2
                      go_ret
                      exact ⟨by first | rfl | (simp; done) | (simp [*]; done), by repeat (first | exact Drawn0.refl _ | apply Drawn0.step)⟩
                    · rw [if_neg c16] at H
                      have c16b0 : (a0 == 40) = false := beq_eq_false_iff_ne.mpr c16
                      have c16b1 : (a0 != 40) = true := bne_iff_ne.mpr c16
                      by_cases c17 : a0 = 123
                      · rw [if_pos c17] at H
                        have c17b0 : (a0 == 123) = true := beq_iff_eq.mpr c17
                        have c17b1 : (a0 != 123) = false := bne_eq_false_iff_eq.mpr c17
                        clear c17
                        obtain rfl := Option.some.inj H
                        go_wp2
                        go_ret
                        exact ⟨by first | rfl | (simp; done) | (simp [*]; done), by repeat (first | exact Drawn0.refl _ | apply Drawn0.step)⟩
                      · rw [if_neg c17] at H
                        have c17b0 : (a0 == 123) = false := beq_eq_false_iff_ne.mpr c17
                        have c17b1 : (a0 != 123) = true := bne_iff_ne.mpr c17
                        obtain rfl := Option.some.inj H
                        go_wp2
                        go_ret
                        exact ⟨by first | rfl | (simp; done) | (simp [*]; done), by repeat (first | exact Drawn0.refl _ | apply Drawn0.step)⟩

/-! ### laws_FnWrAlign: function 3 -/
def laws_FnWrAlign.f (k : Nat) (a0 : ByteArray) : Option (Bool) := if (a0.size : Int) > 2147483647 then (some true) else ((spec_Single.f k a0).bind fun t115 => (if t115 = true then (if 0 < (a0.size : Int) then ((spec_Align.f k (bt a0 0)).bind fun t116 => (if (bt a0 0) = 98 then ((Given.WrAlign.f a0).bind fun bt117 => (if bt117.2 = true then (some (bt117.1 == 1)) else (some false))) else (if (bt a0 0) = 40 then ((Given.WrAlign.f a0).bind fun bt119 => (if bt119.2 = true then (some (bt119.1 == 4)) else (some false))) else ((Given.WrAlign.f a0).bind fun bt121 => (if bt121.2 = true then (some (bt121.1 == t116)) else (some false)))))) else (none)) else (some true)))
theorem laws_FnWrAlign.mono : ∀ a0 k, LeO (laws_FnWrAlign.f k a0) (laws_FnWrAlign.f (k + 1) a0) := by
  intro a0 k
  unfold laws_FnWrAlign.f
  repeat' first
      | (with_reducible exact spec_Align.mono _ _)
      | (with_reducible exact spec_Single.mono _ _)
      | (with_reducible exact LeO.refl _)
      | (with_reducible exact LeO.none _)
      | (with_reducible refine LeO.ite ?_ ?_)
      | (with_reducible refine LeO.bind ?_ (fun _ => ?_))
      | exact spec_Align.mono _ _
      | exact spec_Single.mono _ _
      | exact LeO.none _
      | refine LeO.ite ?_ ?_
      | refine LeO.bind ?_ (fun _ => ?_)
set_option maxHeartbeats 8000000 in
set_option maxRecDepth 100000 in
theorem laws_FnWrAlign.calls (k : Nat) (a0 : ByteArray) (r : Bool) (w : World) (h : laws_FnWrAlign.f k a0 = some r) :
    Calls Tryd.prog 3 #[.string a0] w fun e w' => e = .returned (.bool r) ∧ Below w.heap.size w w' := by
  have HB := Aside0.mk (Below.refl w.heap.size w)
  have H : (if (a0.size : Int) > 2147483647 then (some true) else ((spec_Single.f k a0).bind fun t115 => (if t115 = true then (if 0 < (a0.size : Int) then ((spec_Align.f k (bt a0 0)).bind fun t116 => (if (bt a0 0) = 98 then ((Given.WrAlign.f a0).bind fun bt117 => (if bt117.2 = true then (some (bt117.1 == 1)) else (some false))) else (if (bt a0 0) = 40 then ((Given.WrAlign.f a0).bind fun bt119 => (if bt119.2 = true then (some (bt119.1 == 4)) else (some false))) else ((Given.WrAlign.f a0).bind fun bt121 => (if bt121.2 = true then (some (bt121.1 == t116)) else (some false)))))) else (none)) else (some true)))) = some r := h
  clear h
  by_cases c2 : (a0.size : Int) > 2147483647
  · rw [if_pos c2] at H
    have c2b0 : decide (2147483647 < (a0.size : Int)) = true := decide_eq_true c2
    have c2b1 : decide (2147483647 < a0.size) = true := decide_eq_true (by omega)
    clear c2
    obtain rfl := Option.some.inj H
    go_enter Tryd.func3, Tryd.ntmps3
    go_wp2
    go_ret
    exact ⟨by first | rfl | (simp [errW_none, errW_some] <;> rfl) | (simp [*, errW_none, errW_some] <;> rfl), by repeat (first | (with_reducible first | exact HB.out | apply below_alloc | apply pw_below_drewN | apply below_drew1) | exact HB.out)⟩
  · rw [if_neg c2] at H
    have c2b0 : decide (2147483647 < (a0.size : Int)) = false := decide_eq_false c2
    have c2b1 : decide (2147483647 < a0.size) = false := decide_eq_false (by omega)
    clear c2
    replace H := Option.bind_eq_some_iff.mp H
    obtain ⟨t115, A30, H⟩ := H
    replace H : (if t115 = true then (if 0 < (a0.size : Int) then ((spec_Align.f k (bt a0 0)).bind fun t116 => (if (bt a0 0) = 98 then ((Given.WrAlign.f a0).bind fun bt117 => (if bt117.2 = true then (some (bt117.1 == 1)) else (some false))) else (if (bt a0 0) = 40 then ((Given.WrAlign.f a0).bind fun bt119 => (if bt119.2 = true then (some (bt119.1 == 4)) else (some false))) else ((Given.WrAlign.f a0).bind fun bt121 => (if bt121.2 = true then (some (bt121.1 == t116)) else (some false)))))) else (none)) else (some true)) = some r := H
    have A3 := Aside0.mk A30
    clear A30
    by_cases c4 : t115 = true
    · subst c4
      have H1 : (if 0 < (a0.size : Int) then ((spec_Align.f k (bt a0 0)).bind fun t116 => (if (bt a0 0) = 98 then ((Given.WrAlign.f a0).bind fun bt117 => (if bt117.2 = true then (some (bt117.1 == 1)) else (some false))) else (if (bt a0 0) = 40 then ((Given.WrAlign.f a0).bind fun bt119 => (if bt119.2 = true then (some (bt119.1 == 4)) else (some false))) else ((Given.WrAlign.f a0).bind fun bt121 => (if bt121.2 = true then (some (bt121.1 == t116)) else (some false)))))) else (none)) = some r := by rw [if_pos rfl] at H; exact H
      clear H
      have H := H1
      clear H1
      by_cases c5 : 0 < (a0.size : Int)
      · rw [if_pos c5] at H
        have c5b0 : decide (0 < (a0.size : Int)) = true := decide_eq_true c5
        have c5b1 : decide (0 < a0.size) = true := decide_eq_true (by omega)
        clear c5
        replace H := Option.bind_eq_some_iff.mp H
        obtain ⟨t116, A70, H⟩ := H
        replace H : (if (bt a0 0) = 98 then ((Given.WrAlign.f a0).bind fun bt117 => (if bt117.2 = true then (some (bt117.1 == 1)) else (some false))) else (if (bt a0 0) = 40 then ((Given.WrAlign.f a0).bind fun bt119 => (if bt119.2 = true then (some (bt119.1 == 4)) else (some false))) else ((Given.WrAlign.f a0).bind fun bt121 => (if bt121.2 = true then (some (bt121.1 == t116)) else (some false))))) = some r := H
        have A7 := Aside0.mk A70
        clear A70
        by_cases c9 : (bt a0 0) = 98
        · rw [if_pos c9] at H
          have c9b0 : ((bt a0 0) == 98) = true := beq_iff_eq.mpr c9
          have c9b1 : ((bt a0 0) != 98) = false := bne_eq_false_iff_eq.mpr c9
          clear c9
          replace H := Option.bind_eq_some_iff.mp H
          obtain ⟨⟨t117, t118⟩, A100, H⟩ := H
          replace H : (if t118 = true then (some (t117 == 1)) else (some false)) = some r := H
          have A10 := Aside0.mk A100
          clear A100
          by_cases c11 : t118 = true
          · subst c11
            have H1 : (some (t117 == 1)) = some r := by rw [if_pos rfl] at H; exact H
            clear H
            have H := H1
            clear H1
            obtain rfl := Option.some.inj H
            go_enter Tryd.func3, Tryd.ntmps3
            go_wp2_with (first | ((with_reducible refine gate_callee (f := 4) rfl ?_); refine goesL_ (some 10) rfl rfl Tryd.func4 (by kernel_rfl) rfl #[.string a0] rfl (by (try simp only [List.map_toArray, List.map_cons, List.map_nil]); first | done | rfl | (simp only [List.length_drop, List.length_take]; rfl)) ?_; (with_reducible refine (spec_Single.calls k a0 true _ A3.out).mono ?_); rintro e w12 ⟨rfl, hb⟩; refine ⟨_, rfl, ?_⟩; have n0_ := Aside0.mk (below_step (by repeat (first | (with_reducible first | exact HB.out | apply below_alloc | apply pw_below_drewN | apply below_drew1) | exact HB.out)) hb); clear HB; have HB := n0_; clear n0_; (try clear hb); (try clear hb2); (try clear hk); (try clear hi); have p6 : 0 ≤ (0 : Int) := (by omega); have q6 : 0 < a0.size := (by have : (0 : Int) < (a0.size : Int) := of_decide_eq_true (by first | (with_reducible assumption) | assumption); omega); have hx6 : ∀ h : 0 < a0.size, ((a0[0]'h).toNat : Int) = bt a0 0 := bt_at a0 0; clear p6; have qi6 : (0 < (a0.size : Int)) = True := eq_true (of_decide_eq_true (by first | (with_reducible assumption) | assumption)); replace q6 := eq_true q6) | ((with_reducible refine gate_callee (f := 5) rfl ?_); refine goesL_ (some 14) rfl rfl Tryd.func5 (by kernel_rfl) rfl #[.int .u8 (bt a0 0)] rfl (by (try simp only [List.map_toArray, List.map_cons, List.map_nil]); first | done | rfl | (simp only [List.length_drop, List.length_take]; rfl)) ?_; (with_reducible refine (spec_Align.calls k (bt a0 0) t116 _ A7.out).mono ?_); rintro e w' ⟨rfl, ⟨nd, rfl⟩⟩; refine ⟨_, rfl, ?_⟩; have p8 : 0 ≤ (0 : Int) := (by omega); have q8 : 0 < a0.size := (by have : (0 : Int) < (a0.size : Int) := of_decide_eq_true (by first | (with_reducible assumption) | assumption); omega); have hx8 : ∀ h : 0 < a0.size, ((a0[0]'h).toNat : Int) = bt a0 0 := bt_at a0 0; clear p8; have qi8 : (0 < (a0.size : Int)) = True := eq_true (of_decide_eq_true (by first | (with_reducible assumption) | assumption)); replace q8 := eq_true q8) | ((with_reducible refine gate_callee (f := 6) rfl ?_); refine goesL_ (some 23) rfl rfl Tryd.func6 (by kernel_rfl) rfl #[.string a0] rfl (by (try simp only [List.map_toArray, List.map_cons, List.map_nil]); first | done | rfl | (simp only [List.length_drop, List.length_take]; rfl)) ?_; (with_reducible refine (Given.WrAlign.calls a0 t117 true _ A10.out).mono ?_); rintro e w13 ⟨rfl, hb⟩; refine ⟨_, rfl, ?_⟩; have n0_ := Aside0.mk (below_step (by repeat (first | (with_reducible first | exact HB.out | apply below_alloc | apply pw_below_drewN | apply below_drew1) | exact HB.out)) hb); clear HB; have HB := n0_; clear n0_; (try clear hb); (try clear hb2); (try clear hk); (try clear hi)))
            go_ret
            exact ⟨by first | rfl | (simp [errW_none, errW_some] <;> rfl) | (simp [*, errW_none, errW_some] <;> rfl), by repeat (first | (with_reducible first | exact HB.out | apply below_alloc | apply pw_below_drewN | apply below_drew1) | exact HB.out)⟩
          · replace c11 := Bool.eq_false_iff.mpr c11
            subst c11
            have H1 : (some false) = some r := by rw [if_neg (show ¬ (false = true) by decide)] at H; exact H
            clear H
            have H := H1
            clear H1
            obtain rfl := Option.some.inj H
            go_enter Tryd.func3, Tryd.ntmps3
            go_wp2_with (first | ((with_reducible refine gate_callee (f := 4) rfl ?_); refine goesL_ (some 10) rfl rfl Tryd.func4 (by kernel_rfl) rfl #[.string a0] rfl (by (try simp only [List.map_toArray, List.map_cons, List.map_nil]); first | done | rfl | (simp only [List.length_drop, List.length_take]; rfl)) ?_; (with_reducible refine (spec_Single.calls k a0 true _ A3.out).mono ?_); rintro e w14 ⟨rfl, hb⟩; refine ⟨_, rfl, ?_⟩; have n0_ := Aside0.mk (below_step (by repeat (first | (with_reducible first | exact HB.out | apply below_alloc | apply pw_below_drewN | apply below_drew1) | exact HB.out)) hb); clear HB; have HB := n0_; clear n0_; (try clear hb); (try clear hb2); (try clear hk); (try clear hi); have p6 : 0 ≤ (0 : Int) := (by omega); have q6 : 0 < a0.size := (by have : (0 : Int) < (a0.size : Int) := of_decide_eq_true (by first | (with_reducible assumption) | assumption); omega); have hx6 : ∀ h : 0 < a0.size, ((a0[0]'h).toNat : Int) = bt a0 0 := bt_at a0 0; clear p6; have qi6 : (0 < (a0.size : Int)) = True := eq_true (of_decide_eq_true (by first | (with_reducible assumption) | assumption)); replace q6 := eq_true q6) | ((with_reducible refine gate_callee (f := 5) rfl ?_); refine goesL_ (some 14) rfl rfl Tryd.func5 (by kernel_rfl) rfl #[.int .u8 (bt a0 0)] rfl (by (try simp only [List.map_toArray, List.map_cons, List.map_nil]); first | done | rfl | (simp only [List.length_drop, List.length_take]; rfl)) ?_; (with_reducible refine (spec_Align.calls k (bt a0 0) t116 _ A7.out).mono ?_); rintro e w' ⟨rfl, ⟨nd, rfl⟩⟩; refine ⟨_, rfl, ?_⟩; have p8 : 0 ≤ (0 : Int) := (by omega); have q8 : 0 < a0.size := (by have : (0 : Int) < (a0.size : Int) := of_decide_eq_true (by first | (with_reducible assumption) | assumption); omega); have hx8 : ∀ h : 0 < a0.size, ((a0[0]'h).toNat : Int) = bt a0 0 := bt_at a0 0; clear p8; have qi8 : (0 < (a0.size : Int)) = True := eq_true (of_decide_eq_true (by first | (with_reducible assumption) | assumption)); replace q8 := eq_true q8) | ((with_reducible refine gate_callee (f := 6) rfl ?_); refine goesL_ (some 23) rfl rfl Tryd.func6 (by kernel_rfl) rfl #[.string a0] rfl (by (try simp only [List.map_toArray, List.map_cons, List.map_nil]); first | done | rfl | (simp only [List.length_drop, List.length_take]; rfl)) ?_; (with_reducible refine (Given.WrAlign.calls a0 t117 false _ A10.out).mono ?_); rintro e w15 ⟨rfl, hb⟩; refine ⟨_, rfl, ?_⟩; have n0_ := Aside0.mk (below_step (by repeat (first | (with_reducible first | exact HB.out | apply below_alloc | apply pw_below_drewN | apply below_drew1) | exact HB.out)) hb); clear HB; have HB := n0_; clear n0_; (try clear hb); (try clear hb2); (try clear hk); (try clear hi)))
            go_ret
            exact ⟨by first | rfl | (simp [errW_none, errW_some] <;> rfl) | (simp [*, errW_none, errW_some] <;> rfl), by repeat (first | (with_reducible first | exact HB.out | apply below_alloc | apply pw_below_drewN | apply below_drew1) | exact HB.out)⟩
        · rw [if_neg c9] at H
          have c9b0 : ((bt a0 0) == 98) = false := beq_eq_false_iff_ne.mpr c9
          have c9b1 : ((bt a0 0) != 98) = true := bne_iff_ne.mpr c9
          by_cases c16 : (bt a0 0) = 40
          · rw [if_pos c16] at H
            have c16b0 : ((bt a0 0) == 40) = true := beq_iff_eq.mpr c16
            have c16b1 : ((bt a0 0) != 40) = false := bne_eq_false_iff_eq.mpr c16
            clear c16
            replace H := Option.bind_eq_some_iff.mp H
            obtain ⟨⟨t119, t120⟩, A170, H⟩ := H
            replace H : (if t120 = true then (some (t119 == 4)) else (some false)) = some r := H
            have A17 := Aside0.mk A170
            clear A170
            by_cases c18 : t120 = true
            · subst c18
              have H1 : (some (t119 == 4)) = some r := by rw [if_pos rfl] at H; exact H
              clear H
              have H := H1
              clear H1
              obtain rfl := Option.some.inj H
              go_enter Tryd.func3, Tryd.ntmps3
              go_wp2_with (first | ((with_reducible refine gate_callee (f := 4) rfl ?_); refine goesL_ (some 10) rfl rfl Tryd.func4 (by kernel_rfl) rfl #[.string a0] rfl (by (try simp only [List.map_toArray, List.map_cons, List.map_nil]); first | done | rfl | (simp only [List.length_drop, List.length_take]; rfl)) ?_; (with_reducible refine (spec_Single.calls k a0 true _ A3.out).mono ?_); rintro e w19 ⟨rfl, hb⟩; refine ⟨_, rfl, ?_⟩; have n0_ := Aside0.mk (below_step (by repeat (first | (with_reducible first | exact HB.out | apply below_alloc | apply pw_below_drewN | apply below_drew1) | exact HB.out)) hb); clear HB; have HB := n0_; clear n0_; (try clear hb); (try clear hb2); (try clear hk); (try clear hi); have p6 : 0 ≤ (0 : Int) := (by omega); have q6 : 0 < a0.size := (by have : (0 : Int) < (a0.size : Int) := of_decide_eq_true (by first | (with_reducible assumption) | assumption); omega); have hx6 : ∀ h : 0 < a0.size, ((a0[0]'h).toNat : Int) = bt a0 0 := bt_at a0 0; clear p6; have qi6 : (0 < (a0.size : Int)) = True := eq_true (of_decide_eq_true (by first | (with_reducible assumption) | assumption)); replace q6 := eq_true q6) | ((with_reducible refine gate_callee (f := 5) rfl ?_); refine goesL_ (some 14) rfl rfl Tryd.func5 (by kernel_rfl) rfl #[.int .u8 (bt a0 0)] rfl (by (try simp only [List.map_toArray, List.map_cons, List.map_nil]); first | done | rfl | (simp only [List.length_drop, List.length_take]; rfl)) ?_; (with_reducible refine (spec_Align.calls k (bt a0 0) t116 _ A7.out).mono ?_); rintro e w' ⟨rfl, ⟨nd, rfl⟩⟩; refine ⟨_, rfl, ?_⟩; have p8 : 0 ≤ (0 : Int) := (by omega); have q8 : 0 < a0.size := (by have : (0 : Int) < (a0.size : Int) := of_decide_eq_true (by first | (with_reducible assumption) | assumption); omega); have hx8 : ∀ h : 0 < a0.size, ((a0[0]'h).toNat : Int) = bt a0 0 := bt_at a0 0; clear p8; have qi8 : (0 < (a0.size : Int)) = True := eq_true (of_decide_eq_true (by first | (with_reducible assumption) | assumption)); replace q8 := eq_true q8) | ((with_reducible refine gate_callee (f := 6) rfl ?_); refine goesL_ (some 23) rfl rfl Tryd.func6 (by kernel_rfl) rfl #[.string a0] rfl (by (try simp only [List.map_toArray, List.map_cons, List.map_nil]); first | done | rfl | (simp only [List.length_drop, List.length_take]; rfl)) ?_; (with_reducible refine (Given.WrAlign.calls a0 t119 true _ A17.out).mono ?_); rintro e w20 ⟨rfl, hb⟩; refine ⟨_, rfl, ?_⟩; have n0_ := Aside0.mk (below_step (by repeat (first | (with_reducible first | exact HB.out | apply below_alloc | apply pw_below_drewN | apply below_drew1) | exact HB.out)) hb); clear HB; have HB := n0_; clear n0_; (try clear hb); (try clear hb2); (try clear hk); (try clear hi)))
              go_ret
              exact ⟨by first | rfl | (simp [errW_none, errW_some] <;> rfl) | (simp [*, errW_none, errW_some] <;> rfl), by repeat (first | (with_reducible first | exact HB.out | apply below_alloc | apply pw_below_drewN | apply below_drew1) | exact HB.out)⟩
            · replace c18 := Bool.eq_false_iff.mpr c18
              subst c18
              have H1 : (some false) = some r := by rw [if_neg (show ¬ (false = true) by decide)] at H; exact H
              clear H
              have H := H1
              clear H1
              obtain rfl := Option.some.inj H
              go_enter Tryd.func3, Tryd.ntmps3
              go_wp2_with (first | ((with_reducible refine gate_callee (f := 4) rfl ?_); refine goesL_ (some 10) rfl rfl Tryd.func4 (by kernel_rfl) rfl #[.string a0] rfl (by (try simp only [List.map_toArray, List.map_cons, List.map_nil]); first | done | rfl | (simp only [List.length_drop, List.length_take]; rfl)) ?_; (with_reducible refine (spec_Single.calls k a0 true _ A3.out).mono ?_); rintro e w21 ⟨rfl, hb⟩; refine ⟨_, rfl, ?_⟩; have n0_ := Aside0.mk (below_step (by repeat (first | (with_reducible first | exact HB.out | apply below_alloc | apply pw_below_drewN | apply below_drew1) | exact HB.out)) hb); clear HB; have HB := n0_; clear n0_; (try clear hb); (try clear hb2); (try clear hk); (try clear hi); have p6 : 0 ≤ (0 : Int) := (by omega); have q6 : 0 < a0.size := (by have : (0 : Int) < (a0.size : Int) := of_decide_eq_true (by first | (with_reducible assumption) | assumption); omega); have hx6 : ∀ h : 0 < a0.size, ((a0[0]'h).toNat : Int) = bt a0 0 := bt_at a0 0; clear p6; have qi6 : (0 < (a0.size : Int)) = True := eq_true (of_decide_eq_true (by first | (with_reducible assumption) | assumption)); replace q6 := eq_true q6) | ((with_reducible refine gate_callee (f := 5) rfl ?_); refine goesL_ (some 14) rfl rfl Tryd.func5 (by kernel_rfl) rfl #[.int .u8 (bt a0 0)] rfl (by (try simp only [List.map_toArray, List.map_cons, List.map_nil]); first | done | rfl | (simp only [List.length_drop, List.length_take]; rfl)) ?_; (with_reducible refine (spec_Align.calls k (bt a0 0) t116 _ A7.out).mono ?_); rintro e w' ⟨rfl, ⟨nd, rfl⟩⟩; refine ⟨_, rfl, ?_⟩; have p8 : 0 ≤ (0 : Int) := (by omega); have q8 : 0 < a0.size := (by have : (0 : Int) < (a0.size : Int) := of_decide_eq_true (by first | (with_reducible assumption) | assumption); omega); have hx8 : ∀ h : 0 < a0.size, ((a0[0]'h).toNat : Int) = bt a0 0 := bt_at a0 0; clear p8; have qi8 : (0 < (a0.size : Int)) = True := eq_true (of_decide_eq_true (by first | (with_reducible assumption) | assumption)); replace q8 := eq_true q8) | ((with_reducible refine gate_callee (f := 6) rfl ?_); refine goesL_ (some 23) rfl rfl Tryd.func6 (by kernel_rfl) rfl #[.string a0] rfl (by (try simp only [List.map_toArray, List.map_cons, List.map_nil]); first | done | rfl | (simp only [List.length_drop, List.length_take]; rfl)) ?_; (with_reducible refine (Given.WrAlign.calls a0 t119 false _ A17.out).mono ?_); rintro e w22 ⟨rfl, hb⟩; refine ⟨_, rfl, ?_⟩; have n0_ := Aside0.mk (below_step (by repeat (first | (with_reducible first | exact HB.out | apply below_alloc | apply pw_below_drewN | apply below_drew1) | exact HB.out)) hb); clear HB; have HB := n0_; clear n0_; (try clear hb); (try clear hb2); (try clear hk); (try clear hi)))
              go_ret
              exact ⟨by first | rfl | (simp [errW_none, errW_some] <;> rfl) | (simp [*, errW_none, errW_some] <;> rfl), by repeat (first | (with_reducible first | exact HB.out | apply below_alloc | apply pw_below_drewN | apply below_drew1) | exact HB.out)⟩
          · rw [if_neg c16] at H
            have c16b0 : ((bt a0 0) == 40) = false := beq_eq_false_iff_ne.mpr c16
            have c16b1 : ((bt a0 0) != 40) = true := bne_iff_ne.mpr c16
            replace H := Option.bind_eq_some_iff.mp H
            obtain ⟨⟨t121, t122⟩, A230, H⟩ := H
            replace H : (if t122 = true then (some (t121 == t116)) else (some false)) = some r := H
            have A23 := Aside0.mk A230
            clear A230
            by_cases c24 : t122 = true
            · subst c24
              have H1 : (some (t121 == t116)) = some r := by rw [if_pos rfl] at H; exact H
              clear H
              have H := H1
              clear H1
              obtain rfl := Option.some.inj H
              go_enter Tryd.func3, Tryd.ntmps3
              go_wp2_with (first | ((with_reducible refine gate_callee (f := 4) rfl ?_); refine goesL_ (some 10) rfl rfl Tryd.func4 (by kernel_rfl) rfl #[.string a0] rfl (by (try simp only [List.map_toArray, List.map_cons, List.map_nil]); first | done | rfl | (simp only [List.length_drop, List.length_take]; rfl)) ?_; (with_reducible refine (spec_Single.calls k a0 true _ A3.out).mono ?_); rintro e w25 ⟨rfl, hb⟩; refine ⟨_, rfl, ?_⟩; have n0_ := Aside0.mk (below_step (by repeat (first | (with_reducible first | exact HB.out | apply below_alloc | apply pw_below_drewN | apply below_drew1) | exact HB.out)) hb); clear HB; have HB := n0_; clear n0_; (try clear hb); (try clear hb2); (try clear hk); (try clear hi); have p6 : 0 ≤ (0 : Int) := (by omega); have q6 : 0 < a0.size := (by have : (0 : Int) < (a0.size : Int) := of_decide_eq_true (by first | (with_reducible assumption) | assumption); omega); have hx6 : ∀ h : 0 < a0.size, ((a0[0]'h).toNat : Int) = bt a0 0 := bt_at a0 0; clear p6; have qi6 : (0 < (a0.size : Int)) = True := eq_true (of_decide_eq_true (by first | (with_reducible assumption) | assumption)); replace q6 := eq_true q6) | ((with_reducible refine gate_callee (f := 5) rfl ?_); refine goesL_ (some 14) rfl rfl Tryd.func5 (by kernel_rfl) rfl #[.int .u8 (bt a0 0)] rfl (by (try simp only [List.map_toArray, List.map_cons, List.map_nil]); first | done | rfl | (simp only [List.length_drop, List.length_take]; rfl)) ?_; (with_reducible refine (spec_Align.calls k (bt a0 0) t116 _ A7.out).mono ?_); rintro e w' ⟨rfl, ⟨nd, rfl⟩⟩; refine ⟨_, rfl, ?_⟩; have p8 : 0 ≤ (0 : Int) := (by omega); have q8 : 0 < a0.size := (by have : (0 : Int) < (a0.size : Int) := of_decide_eq_true (by first | (with_reducible assumption) | assumption); omega); have hx8 : ∀ h : 0 < a0.size, ((a0[0]'h).toNat : Int) = bt a0 0 := bt_at a0 0; clear p8; have qi8 : (0 < (a0.size : Int)) = True := eq_true (of_decide_eq_true (by first | (with_reducible assumption) | assumption)); replace q8 := eq_true q8) | ((with_reducible refine gate_callee (f := 6) rfl ?_); refine goesL_ (some 23) rfl rfl Tryd.func6 (by kernel_rfl) rfl #[.string a0] rfl (by (try simp only [List.map_toArray, List.map_cons, List.map_nil]); first | done | rfl | (simp only [List.length_drop, List.length_take]; rfl)) ?_; (with_reducible refine (Given.WrAlign.calls a0 t121 true _ A23.out).mono ?_); rintro e w26 ⟨rfl, hb⟩; refine ⟨_, rfl, ?_⟩; have n0_ := Aside0.mk (below_step (by repeat (first | (with_reducible first | exact HB.out | apply below_alloc | apply pw_below_drewN | apply below_drew1) | exact HB.out)) hb); clear HB; have HB := n0_; clear n0_; (try clear hb); (try clear hb2); (try clear hk); (try clear hi)))
              go_ret
              exact ⟨by first | rfl | (simp [errW_none, errW_some] <;> rfl) | (simp [*, errW_none, errW_some] <;> rfl), by repeat (first | (with_reducible first | exact HB.out | apply below_alloc | apply pw_below_drewN | apply below_drew1) | exact HB.out)⟩
            · replace c24 := Bool.eq_false_iff.mpr c24
              subst c24
              have H1 : (some false) = some r := by rw [if_neg (show ¬ (false = true) by decide)] at H; exact H
              clear H
              have H := H1
              clear H1
              obtain rfl := Option.some.inj H
              go_enter Tryd.func3, Tryd.ntmps3
              go_wp2_with (first | ((with_reducible refine gate_callee (f := 4) rfl ?_); refine goesL_ (some 10) rfl rfl Tryd.func4 (by kernel_rfl) rfl #[.string a0] rfl (by (try simp only [List.map_toArray, List.map_cons, List.map_nil]); first | done | rfl | (simp only [List.length_drop, List.length_take]; rfl)) ?_; (with_reducible refine (spec_Single.calls k a0 true _ A3.out).mono ?_); rintro e w27 ⟨rfl, hb⟩; refine ⟨_, rfl, ?_⟩; have n0_ := Aside0.mk (below_step (by repeat (first | (with_reducible first | exact HB.out | apply below_alloc | apply pw_below_drewN | apply below_drew1) | exact HB.out)) hb); clear HB; have HB := n0_; clear n0_; (try clear hb); (try clear hb2); (try clear hk); (try clear hi); have p6 : 0 ≤ (0 : Int) := (by omega); have q6 : 0 < a0.size := (by have : (0 : Int) < (a0.size : Int) := of_decide_eq_true (by first | (with_reducible assumption) | assumption); omega); have hx6 : ∀ h : 0 < a0.size, ((a0[0]'h).toNat : Int) = bt a0 0 := bt_at a0 0; clear p6; have qi6 : (0 < (a0.size : Int)) = True := eq_true (of_decide_eq_true (by first | (with_reducible assumption) | assumption)); replace q6 := eq_true q6) | ((with_reducible refine gate_callee (f := 5) rfl ?_); refine goesL_ (some 14) rfl rfl Tryd.func5 (by kernel_rfl) rfl #[.int .u8 (bt a0 0)] rfl (by (try simp only [List.map_toArray, List.map_cons, List.map_nil]); first | done | rfl | (simp only [List.length_drop, List.length_take]; rfl)) ?_; (with_reducible refine (spec_Align.calls k (bt a0 0) t116 _ A7.out).mono ?_); rintro e w' ⟨rfl, ⟨nd, rfl⟩⟩; refine ⟨_, rfl, ?_⟩; have p8 : 0 ≤ (0 : Int) := (by omega); have q8 : 0 < a0.size := (by have : (0 : Int) < (a0.size : Int) := of_decide_eq_true (by first | (with_reducible assumption) | assumption); omega); have hx8 : ∀ h : 0 < a0.size, ((a0[0]'h).toNat : Int) = bt a0 0 := bt_at a0 0; clear p8; have qi8 : (0 < (a0.size : Int)) = True := eq_true (of_decide_eq_true (by first | (with_reducible assumption) | assumption)); replace q8 := eq_true q8) | ((with_reducible refine gate_callee (f := 6) rfl ?_); refine goesL_ (some 23) rfl rfl Tryd.func6 (by kernel_rfl) rfl #[.string a0] rfl (by (try simp only [List.map_toArray, List.map_cons, List.map_nil]); first | done | rfl | (simp only [List.length_drop, List.length_take]; rfl)) ?_; (with_reducible refine (Given.WrAlign.calls a0 t121 false _ A23.out).mono ?_); rintro e w28 ⟨rfl, hb⟩; refine ⟨_, rfl, ?_⟩; have n0_ := Aside0.mk (below_step (by repeat (first | (with_reducible first | exact HB.out | apply below_alloc | apply pw_below_drewN | apply below_drew1) | exact HB.out)) hb); clear HB; have HB := n0_; clear n0_; (try clear hb); (try clear hb2); (try clear hk); (try clear hi)))
              go_ret
              exact ⟨by first | rfl | (simp [errW_none, errW_some] <;> rfl) | (simp [*, errW_none, errW_some] <;> rfl), by repeat (first | (with_reducible first | exact HB.out | apply below_alloc | apply pw_below_drewN | apply below_drew1) | exact HB.out)⟩
      · rw [if_neg c5] at H
        exact absurd H (by simp)
    · replace c4 := Bool.eq_false_iff.mpr c4
      subst c4
      have H1 : (some true) = some r := by rw [if_neg (show ¬ (false = true) by decide)] at H; exact H
      clear H
      have H := H1
      clear H1
      obtain rfl := Option.some.inj H
      go_enter Tryd.func3, Tryd.ntmps3
      go_wp2_with (first | ((with_reducible refine gate_callee (f := 4) rfl ?_); refine goesL_ (some 10) rfl rfl Tryd.func4 (by kernel_rfl) rfl #[.string a0] rfl (by (try simp only [List.map_toArray, List.map_cons, List.map_nil]); first | done | rfl | (simp only [List.length_drop, List.length_take]; rfl)) ?_; (with_reducible refine (spec_Single.calls k a0 false _ A3.out).mono ?_); rintro e w29 ⟨rfl, hb⟩; refine ⟨_, rfl, ?_⟩; have n0_ := Aside0.mk (below_step (by repeat (first | (with_reducible first | exact HB.out | apply below_alloc | apply pw_below_drewN | apply below_drew1) | exact HB.out)) hb); clear HB; have HB := n0_; clear n0_; (try clear hb); (try clear hb2); (try clear hk); (try clear hi)))
      go_ret
      exact ⟨by first | rfl | (simp [errW_none, errW_some] <;> rfl) | (simp [*, errW_none, errW_some] <;> rfl), by repeat (first | (with_reducible first | exact HB.out | apply below_alloc | apply pw_below_drewN | apply below_drew1) | exact HB.out)⟩

/-- THE ONE PURE STATEMENT of laws_FnWrAlign: yours. -/
def laws_FnWrAlign.Pure : Prop := ∀ (a0 : ByteArray), a0.size ≤ 140737488351232 → ∃ k, laws_FnWrAlign.f k a0 = some true
theorem laws_FnWrAlign.walk (P : laws_FnWrAlign.Pure) (a0 : ByteArray) (w : World) (w0 : a0.size ≤ 140737488351232) :
    Calls Tryd.prog 3 #[.string a0] w fun e w' => e = .returned (.bool true) ∧ Below w.heap.size w w' := by
  obtain ⟨k, h⟩ := P a0 w0
  refine (laws_FnWrAlign.calls k a0 true w h).mono ?_
  rintro e w' ⟨rfl, hd⟩
  exact ⟨rfl, hd⟩

end Go.Proofs.YthkblpbabcibcaaDoor.PWa

/- Part of the proof of LawFnSgOfParts. -/
import Derived.Test.YtnojjfklnihmnaaDoorGvBd
import Derived.Test.YtnojjfklnihmnaaDoorPFnSgOfPartsx2
set_option linter.unusedVariables false
set_option linter.unusedSimpArgs false
namespace Go.Proofs.YtnojjfklnihmnaaDoor.PFnSgOfParts
open Go.RowKit Go.Proofs.YtnojjfklnihmnaaDoorW.PrintWords Go.Proofs.YtnojjfklnihmnaaDoorW.PrintLast Go.Proofs.YtnojjfklnihmnaaDoorW.PrintMore
attribute [local go_sem] max2_int min2_int max_two min_two max_three min_three max_four min_four   -- for this text's walks alone
set_option linter.unusedVariables false
set_option linter.unusedSimpArgs false
def spec_complete.f (k : Nat) (a0 : ByteArray) : Option (Int) := (spec_Complete.f k a0 32 32 32).bind fun t118 => (some t118)
set_option maxHeartbeats 8000000 in
set_option maxRecDepth 100000 in
theorem spec_complete.calls (k : Nat) (a0 : ByteArray) (r : Int) (w : World) (h : spec_complete.f k a0 = some r) :
    Calls Tryd.prog 30 #[.string a0] w fun e w' => e = .returned (.int .i64 r) ∧ Drawn0 w w' := by
  have H : ((spec_Complete.f k a0 32 32 32).bind fun t118 => (some t118)) = some r := h
  clear h
  replace H := Option.bind_eq_some_iff.mp H
  obtain ⟨t118, A20, H⟩ := H
  replace H : (some t118) = some r := H
  have A2 := Aside0.mk A20
  clear A20
  obtain rfl := Option.some.inj H
  go_enter Tryd.func30, Tryd.ntmps30
  go_wp2_with (first | ((with_reducible refine gate_callee (f := 54) rfl ?_); refine goesL_ (some 4) rfl rfl Tryd.func54 (by kernel_rfl) rfl #[.string a0, .int .i64 32, .int .i64 32, .int .i64 32] rfl (by (try simp only [List.map_toArray, List.map_cons, List.map_nil]); first | done | rfl | (simp only [List.length_drop, List.length_take]; rfl)) ?_; (with_reducible refine (spec_Complete.calls k a0 32 32 32 t118 _ A2.out).mono ?_); rintro e w' ⟨rfl, ⟨nd, rfl⟩⟩; refine ⟨_, rfl, ?_⟩))
  go_ret
  exact ⟨by first | rfl | (simp; done) | (simp [*]; done), by repeat (first | exact Drawn0.refl _ | apply Drawn0.step)⟩
def spec_Types.l0 : Nat → ByteArray → List ByteArray → Option (List ByteArray × Bool)
  | 0, _, _ => none
  | k + 1, x0, x4 => if x0.toList = ([] : List UInt8) then (some (x4, true)) else ((spec_complete.f k x0).bind fun t119 => (if t119 = 0 then (some (([] : List ByteArray), false)) else (if 0 ≤ t119 then (if t119 ≤ (x0.size : Int) then (if x4.length < 8796093022208 then (spec_Types.l0 k (x0.extract (t119 : Int).toNat x0.size) (x4 ++ [x0.extract 0 (t119 : Int).toNat])) else (none)) else (none)) else (none))))
def spec_Types.f (k : Nat) (a0 : ByteArray) : Option (List ByteArray × Bool) := if (a0.size : Int) > 255 then (some (([] : List ByteArray), false)) else (spec_Types.l0 k a0 ([] : List ByteArray))
set_option maxHeartbeats 8000000 in
set_option maxRecDepth 100000 in
theorem spec_Types.calls (k : Nat) (a0 : ByteArray) (r1 : List ByteArray) (r2 : Bool) (w : World) (h : spec_Types.f k a0 = some (r1, r2)) :
    Calls Tryd.prog 21 #[.string a0] w fun e w' => ∃ v0_ : Value, e = .returned (.tuple #[v0_, .bool r2]) ∧ Kd.R Kd.string 9 w' w.heap.size (fun _ => True) v0_ r1 ∧ Below w.heap.size w w' := by
  have HB := Aside0.mk (Below.refl w.heap.size w)
  have H : (if (a0.size : Int) > 255 then (some (([] : List ByteArray), false)) else (spec_Types.l0 k a0 ([] : List ByteArray))) = some (r1, r2) := h
  clear h
  by_cases c2 : (a0.size : Int) > 255
  · rw [if_pos c2] at H
    have c2b0 : decide (255 < (a0.size : Int)) = true := decide_eq_true c2
    have c2b1 : decide (255 < a0.size) = true := decide_eq_true (by omega)
    clear c2
    simp only [Option.some.injEq, Prod.mk.injEq] at H
    obtain ⟨rfl, rfl⟩ := H
    go_enter Tryd.func21, Tryd.ntmps21
    go_wp2
    go_ret2
    exact ⟨_, by first | rfl | (simp [errW_none, errW_some] <;> rfl) | (simp [*, errW_none, errW_some] <;> rfl), by first | exact Kd.R_nil _ _ _ _ _ | exact Kd.N_nil _ _ _ _ _ | exact Kd.V_nil _ _ _ _ _ | exact Kd.Q_nil _ _ _ _ _ | exact Kd.S_nil _ _ _ _ _, by repeat (first | (with_reducible first | exact HB.out | apply below_alloc | apply pw_below_drewN | apply below_drew1) | exact HB.out)⟩
  · rw [if_neg c2] at H
    have c2b0 : decide (255 < (a0.size : Int)) = false := decide_eq_false c2
    have c2b1 : decide (255 < a0.size) = false := decide_eq_false (by omega)
    clear c2
    have H' := Aside0.mk H
    clear H
    go_enter Tryd.func21, Tryd.ntmps21
    go_wp2
    go_loopg [0, 4] k (fun kq v0 v4 w' => ∃ (x0_1 : ByteArray) (x4_1 : List ByteArray), v0 = .string x0_1 ∧ Aside0 (spec_Types.l0 kq x0_1 x4_1 = some (r1, r2)) ∧ Aside0 (kq ≤ k) ∧ Aside0 (Kd.R Kd.string 9 w' w.heap.size (fun _ => True) v4 x4_1) ∧ Aside0 (Below w.heap.size w w'))
    case atStart => exact ⟨(a0), (([] : List ByteArray)), (by first | rfl | (simp; done) | (simp [*]; done)), H', ⟨Nat.le_refl _⟩, ⟨by first | exact Kd.R_nil _ _ _ _ _ | exact Kd.N_nil _ _ _ _ _ | exact Kd.V_nil _ _ _ _ _ | exact Kd.Q_nil _ _ _ _ _ | exact Kd.S_nil _ _ _ _ _⟩, ⟨by repeat (first | (with_reducible first | exact HB.out | apply below_alloc | apply pw_below_drewN | apply below_drew1) | exact HB.out)⟩⟩
    case round =>
      clear H'
      try clear c2
      try clear c2b0
      try clear c2b1
      try clear p2
      obtain ⟨x0_1, x4_1, rfl, HA, HK1, HO_4, HB⟩ := hrel
      cases gk with
      | zero => exact absurd HA.out (by simp [spec_Types.l0])
      | succ k1 =>
        have H := HA.out
        clear HA
        simp only [spec_Types.l0] at H
        by_cases c3 : x0_1.toList = ([] : List UInt8)
        · rw [if_pos c3] at H
          have c3b0 : (x0_1.toList == ([] : List UInt8)) = true := beq_iff_eq.mpr c3
          have c3b1 : (x0_1.toList != ([] : List UInt8)) = false := bne_eq_false_iff_eq.mpr c3
          clear c3
          simp only [Option.some.injEq, Prod.mk.injEq] at H
          obtain ⟨rfl, rfl⟩ := H
          go_wp2
          go_ret2
          exact ⟨_, by first | rfl | (simp [errW_none, errW_some] <;> rfl) | (simp [*, errW_none, errW_some] <;> rfl), by (with_reducible repeat (first | apply Kd.R_alloc | apply Kd.R_drewN | apply Kd.R_drew)); exact HO_4.out, by repeat (first | (with_reducible first | exact HB.out | apply below_alloc | apply pw_below_drewN | apply below_drew1) | exact HB.out)⟩
        · rw [if_neg c3] at H
          have c3b0 : (x0_1.toList == ([] : List UInt8)) = false := beq_eq_false_iff_ne.mpr c3
          have c3b1 : (x0_1.toList != ([] : List UInt8)) = true := bne_iff_ne.mpr c3
          replace H := Option.bind_eq_some_iff.mp H
          obtain ⟨t119, A40, H⟩ := H
          replace H : (if t119 = 0 then (some (([] : List ByteArray), false)) else (if 0 ≤ t119 then (if t119 ≤ (x0_1.size : Int) then (if x4_1.length < 8796093022208 then (spec_Types.l0 k1 (x0_1.extract (t119 : Int).toNat x0_1.size) (x4_1 ++ [x0_1.extract 0 (t119 : Int).toNat])) else (none)) else (none)) else (none))) = some (r1, r2) := H
          have A4 := Aside0.mk A40
          clear A40
          by_cases c5 : t119 = 0
          · rw [if_pos c5] at H
            have c5b0 : (t119 == 0) = true := beq_iff_eq.mpr c5
            have c5b1 : (t119 != 0) = false := bne_eq_false_iff_eq.mpr c5
            clear c5
            simp only [Option.some.injEq, Prod.mk.injEq] at H
            obtain ⟨rfl, rfl⟩ := H
            go_wp2_with (first | ((with_reducible refine gate_callee (f := 30) rfl ?_); refine goesL_ (some 12) rfl rfl Tryd.func30 (by kernel_rfl) rfl #[.string x0_1] rfl (by (try simp only [List.map_toArray, List.map_cons, List.map_nil]); first | done | rfl | (simp only [List.length_drop, List.length_take]; rfl)) ?_; (with_reducible refine (spec_complete.calls k1 x0_1 t119 _ A4.out).mono ?_); rintro e w' ⟨rfl, ⟨nd, rfl⟩⟩; refine ⟨_, rfl, ?_⟩))
            go_ret2
            exact ⟨_, by first | rfl | (simp [errW_none, errW_some] <;> rfl) | (simp [*, errW_none, errW_some] <;> rfl), by first | exact Kd.R_nil _ _ _ _ _ | exact Kd.N_nil _ _ _ _ _ | exact Kd.V_nil _ _ _ _ _ | exact Kd.Q_nil _ _ _ _ _ | exact Kd.S_nil _ _ _ _ _, by repeat (first | (with_reducible first | exact HB.out | apply below_alloc | apply pw_below_drewN | apply below_drew1) | exact HB.out)⟩
          · rw [if_neg c5] at H
            have c5b0 : (t119 == 0) = false := beq_eq_false_iff_ne.mpr c5
            have c5b1 : (t119 != 0) = true := bne_iff_ne.mpr c5
            by_cases c6 : 0 ≤ t119
            · rw [if_pos c6] at H
              have c6b0 := eq_true c6
              have c6b1 : decide (0 ≤ t119) = true := decide_eq_true c6
              clear c6
              by_cases c7 : t119 ≤ (x0_1.size : Int)
              · rw [if_pos c7] at H
                have c7b0 := eq_true c7
                have c7b1 : decide (t119 ≤ (x0_1.size : Int)) = true := decide_eq_true c7
                clear c7
                by_cases c8 : x4_1.length < 8796093022208
                · rw [if_pos c8] at H
                  have LMc8 := Aside0.mk c8
                  clear c8
                  obtain ⟨y120, hy120⟩ : ∃ y_ : List ByteArray, y_ = (x4_1 ++ [x0_1.extract 0 (t119 : Int).toNat]) := ⟨_, rfl⟩
                  replace H : (spec_Types.l0 k1 (x0_1.extract (t119 : Int).toNat x0_1.size) y120) = some (r1, r2) := by first | (rw [hy120]; with_reducible exact H) | (have H2_ := (Option.bind_some _ _).symm.trans H; rw [hy120]; with_reducible exact H2_) | (have H2_ := (Option.bind_some _ _).symm.trans H; with_reducible exact H2_) | with_reducible exact H | (rw [hy120]; exact H) | exact H
                  have Ny120 := Aside0.mk hy120
                  clear hy120
                  have c9b0 := eq_true (of_decide_eq_true (by first | (with_reducible assumption) | assumption) : 0 ≤ t119)
                  have c10b0 := eq_true (of_decide_eq_true (by first | (with_reducible assumption) | assumption) : t119 ≤ (x0_1.size : Int))
                  have H' := Aside0.mk H
                  clear H
                  go_wp2_with (first | ((with_reducible refine gate_callee (f := 30) rfl ?_); refine goesL_ (some 12) rfl rfl Tryd.func30 (by kernel_rfl) rfl #[.string x0_1] rfl (by (try simp only [List.map_toArray, List.map_cons, List.map_nil]); first | done | rfl | (simp only [List.length_drop, List.length_take]; rfl)) ?_; (with_reducible refine (spec_complete.calls k1 x0_1 t119 _ A4.out).mono ?_); rintro e w' ⟨rfl, ⟨nd, rfl⟩⟩; refine ⟨_, rfl, ?_⟩) | ((with_reducible refine gate_builtin (b := .append) (xs := #[.tmp 15, .tmp 19]) rfl ?_); at_builtin; refine Kd.R_append Kd.string (w0 := w) w.heap.size rfl (.tmp 15) (.tmp 19) 49 9 (.string ⟨#[]⟩) 16 rfl Tryd.underlying49 info9 rfl (by decide) (by omega) u4 x4_1 (x0_1.extract 0 (t119 : Int).toNat) [.string (x0_1.extract 0 (t119 : Int).toNat)] (fun _ => True) (fun _ => False) rfl rfl ?aP (fun _ hk => hk.elim) ?aF ?aO ?aB ?aS ?aL ?_; (case aP => exact rfl); (case aB => exact (by repeat (first | (with_reducible first | exact HB.out | apply below_alloc | apply pw_below_drewN | apply below_drew1) | exact HB.out))); (case aF => exact (fun _ _ => trivial)); (case aO => exact (by (with_reducible repeat (first | apply Kd.R_alloc | apply Kd.R_drewN | apply Kd.R_drew)); exact HO_4.out)); (case aS => exact (below_size (by repeat (first | (with_reducible first | exact HB.out | apply below_alloc | apply pw_below_drewN | apply below_drew1) | exact HB.out)))); (case aL => have := LMc8.out; omega); intro v121 w11 ho hb hg hat; rw [← Ny120.out] at ho; have n0_ := Aside0.mk (hb); have n1_ := Aside0.mk (ho); clear HB; clear HO_4; have HB := n0_; have HO122 := n1_; clear n0_ n1_; clear ho hb hg hat))
                  go_roundg k1
                  case measure => have := HK1.out; omega
                  case rel => exact ⟨(x0_1.extract (t119 : Int).toNat x0_1.size), (y120), (by first | rfl | (simp; done) | (simp [*]; done)), H', ⟨by have := HK1.out; omega⟩, ⟨by (with_reducible repeat (first | apply Kd.R_alloc | apply Kd.R_drewN | apply Kd.R_drew)); exact HO122.out⟩, ⟨by repeat (first | (with_reducible first | exact HB.out | apply below_alloc | apply pw_below_drewN | apply below_drew1) | exact HB.out)⟩⟩
                · rw [if_neg c8] at H
                  exact absurd H (by simp)
              · rw [if_neg c7] at H
                exact absurd H (by simp)
            · rw [if_neg c6] at H
              exact absurd H (by simp)
def spec_Valid.f (k : Nat) (a0 : ByteArray) : Option (Bool) := (spec_Types.f k a0).bind fun bt123 => (some bt123.2)
set_option maxHeartbeats 8000000 in
set_option maxRecDepth 100000 in
theorem spec_Valid.calls (k : Nat) (a0 : ByteArray) (r : Bool) (w : World) (h : spec_Valid.f k a0 = some r) :
    Calls Tryd.prog 13 #[.string a0] w fun e w' => e = .returned (.bool r) ∧ Below w.heap.size w w' := by
  have HB := Aside0.mk (Below.refl w.heap.size w)
  have H : ((spec_Types.f k a0).bind fun bt123 => (some bt123.2)) = some r := h
  clear h
  replace H := Option.bind_eq_some_iff.mp H
  obtain ⟨⟨t123, t124⟩, A20, H⟩ := H
  replace H : (some t124) = some r := H
  have A2 := Aside0.mk A20
  clear A20
  obtain rfl := Option.some.inj H
  go_enter Tryd.func13, Tryd.ntmps13
  go_wp2_with (first | ((with_reducible refine gate_callee (f := 21) rfl ?_); refine goesL_ (some 7) rfl rfl Tryd.func21 (by kernel_rfl) rfl #[.string a0] rfl (by (try simp only [List.map_toArray, List.map_cons, List.map_nil]); first | done | rfl | (simp only [List.length_drop, List.length_take]; rfl)) ?_; (with_reducible refine (spec_Types.calls k a0 t123 t124 _ A2.out).mono ?_); rintro e w3 ⟨v125, rfl, ho0, hb⟩; refine ⟨_, rfl, ?_⟩; have n0_ := Aside0.mk (Kd.R_lower ho0 (below_size (by repeat (first | (with_reducible first | exact HB.out | apply below_alloc | apply pw_below_drewN | apply below_drew1) | exact HB.out)))); have n1_ := Aside0.mk (below_step (by repeat (first | (with_reducible first | exact HB.out | apply below_alloc | apply pw_below_drewN | apply below_drew1) | exact HB.out)) hb); clear HB; have HO126 := n0_; have HB := n1_; clear n0_ n1_; (try clear hb); (try clear hb2); (try clear hk); (try clear hi); (try clear ho0)))
  go_ret
  exact ⟨by first | rfl | (simp [errW_none, errW_some] <;> rfl) | (simp [*, errW_none, errW_some] <;> rfl), by repeat (first | (with_reducible first | exact HB.out | apply below_alloc | apply pw_below_drewN | apply below_drew1) | exact HB.out)⟩
mutual
def spec_SigOf.j0 : Nat → Bool → Int → Int → ByteArray → List (S25) → Option (ByteArray)
  | 0, _, _, _, _, _ => none
  | k + 1, x14, x128000, x128001, x128002, x128003 => if x14 = true then (if x128000 = 123 then (spec_SigOf.j1 k (⟨#[125]⟩ : ByteArray) x128000 x128001 x128002 x128003) else (spec_SigOf.j1 k (⟨#[41]⟩ : ByteArray) x128000 x128001 x128002 x128003)) else (some (strOfNums (([x128000] : List Int))))
def spec_SigOf.j1 : Nat → ByteArray → Int → Int → ByteArray → List (S25) → Option (ByteArray)
  | 0, _, _, _, _, _ => none
  | k + 1, x3, x128000, x128001, x128002, x128003 => spec_SigOf.l0 k x3 (strOfNums (([x128000] : List Int))) x128003 (x128003.length : Int) 0
def spec_SigOf.l0 : Nat → ByteArray → ByteArray → List (S25) → Int → Int → Option (ByteArray)
  | 0, _, _, _, _, _ => none
  | k + 1, x3, x4, x25, x26, x27 => if x27 < x26 then (if 0 ≤ x27 then (if x27 < (x25.length : Int) then ((spec_SigOf.f k ((rd_T25 x25 x27).f0) ((rd_T25 x25 x27).f1) ((rd_T25 x25 x27).f2) ((rd_T25 x25 x27).f3)).bind fun t133 => (if x4.size + t133.size ≤ 9223372036854775807 then (spec_SigOf.l0 k x3 (x4 ++ t133) x25 x26 (wrap64 (x27 + 1))) else (none))) else (none)) else (none)) else (if x4.size + x3.size ≤ 9223372036854775807 then (some (x4 ++ x3)) else (none))
def spec_SigOf.f : Nat → Int → Int → ByteArray → List (S25) → Option (ByteArray)
  | 0, _, _, _, _ => none
  | k + 1, a0_0, a0_1, a0_2, l0_3 => if a0_0 = 97 then (if 1 + a0_2.size ≤ 9223372036854775807 then (some ((⟨#[97]⟩ : ByteArray) ++ a0_2)) else (none)) else (if a0_0 = 40 then (spec_SigOf.j0 k (a0_0 == 40) a0_0 a0_1 a0_2 l0_3) else (spec_SigOf.j0 k (a0_0 == 123) a0_0 a0_1 a0_2 l0_3))
end
set_option maxHeartbeats 8000000 in
set_option maxRecDepth 100000 in
theorem spec_SigOf.calls (k : Nat) : ∀ (a0_0 : Int) (a0_1 : Int) (a0_2 : ByteArray) (A0_3 : Option Addr) (c0_3 : Nat) (l0_3 : List (S25)) (r : ByteArray) (w : World) (hr0_3 : Kd.C k25 w A0_3 l0_3.length l0_3) (hc0_3 : l0_3.length ≤ c0_3) (h : spec_SigOf.f k a0_0 a0_1 a0_2 l0_3 = some r),
    Calls Tryd.prog 14 #[.agg #[.int .u8 a0_0, .int .u64 a0_1, .string a0_2, .slice A0_3 l0_3.length c0_3]] w fun e w' => e = .returned (.string r) ∧ Below w.heap.size w w' := by
  induction k using Nat.strongRecOn with
  | _ k ih =>
  intro a0_0 a0_1 a0_2 A0_3 c0_3 l0_3 r w hr0_3 hc0_3 h
  cases k with
  | zero => exact absurd h (by simp [spec_SigOf.f])
  | succ k =>
  simp only [spec_SigOf.f] at h
  have hu25 := Tryd.underlying25
  have HR0_3 := Aside0.mk hr0_3
  have HC0_3 := Aside0.mk hc0_3
  clear hr0_3 hc0_3
  have HB := Aside0.mk (Below.refl w.heap.size w)
  have H : (if a0_0 = 97 then (if 1 + a0_2.size ≤ 9223372036854775807 then (some ((⟨#[97]⟩ : ByteArray) ++ a0_2)) else (none)) else (if a0_0 = 40 then (spec_SigOf.j0 k (a0_0 == 40) a0_0 a0_1 a0_2 l0_3) else (spec_SigOf.j0 k (a0_0 == 123) a0_0 a0_1 a0_2 l0_3))) = some r := h
  clear h
  by_cases c2 : a0_0 = 97
  · rw [if_pos c2] at H
    have c2b0 : (a0_0 == 97) = true := beq_iff_eq.mpr c2
    have c2b1 : (a0_0 != 97) = false := bne_eq_false_iff_eq.mpr c2
    clear c2
    by_cases c3 : 1 + a0_2.size ≤ 9223372036854775807
    · rw [if_pos c3] at H
      have c3b0 := eq_true c3
      have c3b1 : decide (1 + a0_2.size ≤ 9223372036854775807) = true := decide_eq_true c3
      try have c3b2 : (9223372036854775807 < 1 + a0_2.size) = False := eq_false (Nat.not_lt.2 c3)
      obtain rfl := Option.some.inj H
      go_enter Tryd.func14, Tryd.ntmps14
      go_wp2_with (first | ((with_reducible refine gate_dst (N := 1) rfl ?_); refine box_event ?hg (N := 1) ?hd (cs := #[.int .u8 a0_0, .int .u64 a0_1, .string a0_2, .slice A0_3 l0_3.length c0_3]) (t := 25) ?hr ?_; (case hd => rfl); (case hg => rfl); (case hr => first | (go_simp; done) | (go_simp; rfl)); intro gb127 hg w4 hbox hb; have n0_ := Aside0.mk (below_step (by repeat (first | (with_reducible first | exact HB.out | apply below_alloc | apply pw_below_drewN | apply below_drew1) | exact HB.out)) hb); have n1_ := Aside0.mk (hbox); have n2_ := Aside0.mk ((by rw [hg]; exact (below_size (by repeat (first | (with_reducible first | exact HB.out | apply below_alloc | apply pw_below_drewN | apply below_drew1) | exact HB.out))) : w.heap.size ≤ gb127)); have n3_ := Aside0.mk ((by rw [hg]; exact (below_size (by repeat (first | (with_reducible first | exact HB.out | apply below_alloc | apply pw_below_drewN | apply below_drew1) | exact HB.out))) : w.heap.size ≤ gb127)); clear HB; have HB := n0_; have BK127 := n1_; have GW127 := n2_; have GE127 := n3_; clear n0_ n1_ n2_ n3_; clear hb hbox hg; have hcz5_0 : w4.cell? ⟨gb127, 0, none⟩ = some (.int .u8 a0_0) := (blk_cell BK127.out 0).trans rfl; have hcz5_1 : w4.cell? ⟨gb127, 1, none⟩ = some (.int .u64 a0_1) := (blk_cell BK127.out 1).trans rfl; have hcz5_2 : w4.cell? ⟨gb127, 2, none⟩ = some (.string a0_2) := (blk_cell BK127.out 2).trans rfl; have hcz5_3 : w4.cell? ⟨gb127, 3, none⟩ = some (.slice A0_3 l0_3.length c0_3) := (blk_cell BK127.out 3).trans rfl; have hfz5_0 := blk_frozen BK127.out 0; have hfz5_1 := blk_frozen BK127.out 1; have hfz5_2 := blk_frozen BK127.out 2; have hfz5_3 := blk_frozen BK127.out 3))
      go_ret
      exact ⟨by first | rfl | (simp [errW_none, errW_some] <;> rfl) | (simp [*, errW_none, errW_some] <;> rfl), by repeat (first | (with_reducible first | exact HB.out | apply below_alloc | apply pw_below_drewN | apply below_drew1 | refine below_set ?_ GE127.out) | exact HB.out)⟩
    · rw [if_neg c3] at H
      exact absurd H (by simp)
  · rw [if_neg c2] at H
    have c2b0 : (a0_0 == 97) = false := beq_eq_false_iff_ne.mpr c2
    have c2b1 : (a0_0 != 97) = true := bne_iff_ne.mpr c2
    have HC6 := Aside0.mk H
    clear H
    go_enter Tryd.func14, Tryd.ntmps14
    go_upto_if 14 with (first | ((with_reducible refine gate_dst (N := 1) rfl ?_); refine box_event ?hg (N := 1) ?hd (cs := #[.int .u8 a0_0, .int .u64 a0_1, .string a0_2, .slice A0_3 l0_3.length c0_3]) (t := 25) ?hr ?_; (case hd => rfl); (case hg => rfl); (case hr => first | (go_simp; done) | (go_simp; rfl)); intro gb127 hg w7 hbox hb; have n0_ := Aside0.mk (below_step (by repeat (first | (with_reducible first | exact HB.out | apply below_alloc | apply pw_below_drewN | apply below_drew1) | exact HB.out)) hb); have n1_ := Aside0.mk (hbox); have n2_ := Aside0.mk ((by rw [hg]; exact (below_size (by repeat (first | (with_reducible first | exact HB.out | apply below_alloc | apply pw_below_drewN | apply below_drew1) | exact HB.out))) : w.heap.size ≤ gb127)); have n3_ := Aside0.mk ((by rw [hg]; exact (below_size (by repeat (first | (with_reducible first | exact HB.out | apply below_alloc | apply pw_below_drewN | apply below_drew1) | exact HB.out))) : w.heap.size ≤ gb127)); clear HB; have HB := n0_; have BK127 := n1_; have GW127 := n2_; have GE127 := n3_; clear n0_ n1_ n2_ n3_; clear hb hbox hg; have hcz8_0 : w7.cell? ⟨gb127, 0, none⟩ = some (.int .u8 a0_0) := (blk_cell BK127.out 0).trans rfl; have hcz8_1 : w7.cell? ⟨gb127, 1, none⟩ = some (.int .u64 a0_1) := (blk_cell BK127.out 1).trans rfl; have hcz8_2 : w7.cell? ⟨gb127, 2, none⟩ = some (.string a0_2) := (blk_cell BK127.out 2).trans rfl; have hcz8_3 : w7.cell? ⟨gb127, 3, none⟩ = some (.slice A0_3 l0_3.length c0_3) := (blk_cell BK127.out 3).trans rfl; have hfz8_0 := blk_frozen BK127.out 0; have hfz8_1 := blk_frozen BK127.out 1; have hfz8_2 := blk_frozen BK127.out 2; have hfz8_3 := blk_frozen BK127.out 3))
    (try simp only [Act.put, List.setIfInBounds_toArray, List.set_cons_zero, List.set_cons_succ])
    go_cut [14] (fun v14 wc => ∃ (kq : Nat) (x14_5 : Bool), v14 = .bool x14_5 ∧ Aside0 (spec_SigOf.j0 kq x14_5 a0_0 a0_1 a0_2 l0_3 = some r) ∧ Aside0 (kq ≤ k) ∧ Aside0 (wc.heap[gb127]? = some (.cells #[.int .u8 a0_0, .int .u64 a0_1, .string a0_2, (.slice A0_3 l0_3.length c0_3)] 25 (0, 0))) ∧ Aside0 (Below w.heap.size w wc))
    case first =>
      have H := HC6.out
      clear HC6
      by_cases c9 : a0_0 = 40
      · rw [if_pos c9] at H
        have c9b0 : (a0_0 == 40) = true := beq_iff_eq.mpr c9
        have c9b1 : (a0_0 != 40) = false := bne_eq_false_iff_eq.mpr c9
        clear c9
        (first | rw [c9b0] | (simp only [i64_w, i32_w]; rw [c9b0]) | skip)
        have H' := Aside0.mk H
        clear H
        go_wp2
        go_meet
        case rel => exact ⟨_, ((a0_0 == 40)), (by first | rfl | (simp; done) | (simp [*]; done)), H', ⟨by first | omega | exact Nat.le_refl _⟩, ⟨by (with_reducible repeat (first | refine blk_drewN ?_ _ | refine blk_drew ?_ | refine blk_alloc ?_ _)); exact BK127.out⟩, ⟨by repeat (first | (with_reducible first | exact HB.out | apply below_alloc | apply pw_below_drewN | apply below_drew1 | refine below_set ?_ GE127.out) | exact HB.out)⟩⟩
      · rw [if_neg c9] at H
        have c9b0 : (a0_0 == 40) = false := beq_eq_false_iff_ne.mpr c9
        have c9b1 : (a0_0 != 40) = true := bne_iff_ne.mpr c9
        (first | rw [c9b0] | (simp only [i64_w, i32_w]; rw [c9b0]) | skip)
        have H' := Aside0.mk H
        clear H
        go_wp2
        go_meet
        case rel => exact ⟨_, ((a0_0 == 123)), (by first | rfl | (simp; done) | (simp [*]; done)), H', ⟨by first | omega | exact Nat.le_refl _⟩, ⟨by (with_reducible repeat (first | refine blk_drewN ?_ _ | refine blk_drew ?_ | refine blk_alloc ?_ _)); exact BK127.out⟩, ⟨by repeat (first | (with_reducible first | exact HB.out | apply below_alloc | apply pw_below_drewN | apply below_drew1 | refine below_set ?_ GE127.out) | exact HB.out)⟩⟩
    case rest =>
      clear HC6
      try clear c1
      try clear c2
      try clear c2b0
      try clear c2b1
      try clear p2
      try clear c3
      try clear c3b0
      try clear c3b1
      try clear c3b2
      try clear c9
      try clear c9b0
      try clear c9b1
      try clear hcz5_0
      try clear hcz5_1
      try clear hcz5_2
      try clear hcz5_3
      try clear hcz8_0
      try clear hcz8_1
      try clear hcz8_2
      try clear hcz8_3
      try clear hfz5_0
      try clear hfz5_1
      try clear hfz5_2
      try clear hfz5_3
      try clear hfz8_0
      try clear hfz8_1
      try clear hfz8_2
      try clear hfz8_3
      obtain ⟨kq, x14_5, rfl, HA, HJ5, BK127, HB⟩ := hcut
      cases kq with
      | zero => exact absurd HA.out (by simp [spec_SigOf.j0])
      | succ kj5 =>
        have H := HA.out
        clear HA
        simp only [spec_SigOf.j0] at H
        by_cases c10 : x14_5 = true
        · subst c10
          have H1 : (if a0_0 = 123 then (spec_SigOf.j1 kj5 (⟨#[125]⟩ : ByteArray) a0_0 a0_1 a0_2 l0_3) else (spec_SigOf.j1 kj5 (⟨#[41]⟩ : ByteArray) a0_0 a0_1 a0_2 l0_3)) = some r := by rw [if_pos rfl] at H; exact H
          clear H
          have H := H1
          clear H1
          have HC11 := Aside0.mk H
          clear H
          have hcz12_0 : wc.cell? ⟨gb127, 0, none⟩ = some (.int .u8 a0_0) := (blk_cell BK127.out 0).trans rfl
          have hcz12_1 : wc.cell? ⟨gb127, 1, none⟩ = some (.int .u64 a0_1) := (blk_cell BK127.out 1).trans rfl
          have hcz12_2 : wc.cell? ⟨gb127, 2, none⟩ = some (.string a0_2) := (blk_cell BK127.out 2).trans rfl
          have hcz12_3 : wc.cell? ⟨gb127, 3, none⟩ = some (.slice A0_3 l0_3.length c0_3) := (blk_cell BK127.out 3).trans rfl
          have hfz12_0 := blk_frozen BK127.out 0
          have hfz12_1 := blk_frozen BK127.out 1
          have hfz12_2 := blk_frozen BK127.out 2
          have hfz12_3 := blk_frozen BK127.out 3
          go_upto_if 19 with (fail)
          go_cut [3] (fun v3 wc => ∃ (kq : Nat) (x3_10 : ByteArray), v3 = .string x3_10 ∧ Aside0 (spec_SigOf.j1 kq x3_10 a0_0 a0_1 a0_2 l0_3 = some r) ∧ Aside0 (kq ≤ kj5) ∧ Aside0 (wc.heap[gb127]? = some (.cells #[.int .u8 a0_0, .int .u64 a0_1, .string a0_2, (.slice A0_3 l0_3.length c0_3)] 25 (0, 0))) ∧ Aside0 (Below w.heap.size w wc))
          case first =>
            have H := HC11.out
            clear HC11
            by_cases c13 : a0_0 = 123
            · rw [if_pos c13] at H
              have c13b0 : (a0_0 == 123) = true := beq_iff_eq.mpr c13
              have c13b1 : (a0_0 != 123) = false := bne_eq_false_iff_eq.mpr c13
              clear c13
              (first | rw [c13b0] | (simp only [i64_w, i32_w]; rw [c13b0]) | skip)
              have H' := Aside0.mk H
              clear H
              go_wp2
              go_meet
              case rel => exact ⟨_, ((⟨#[125]⟩ : ByteArray)), (by first | rfl | (simp; done) | (simp [*]; done)), H', ⟨by have := HJ5.out; first | omega | exact Nat.le_refl _⟩, ⟨by (with_reducible repeat (first | refine blk_drewN ?_ _ | refine blk_drew ?_ | refine blk_alloc ?_ _)); exact BK127.out⟩, ⟨by repeat (first | (with_reducible first | exact HB.out | apply below_alloc | apply pw_below_drewN | apply below_drew1 | refine below_set ?_ GE127.out) | exact HB.out)⟩⟩
            · rw [if_neg c13] at H
              have c13b0 : (a0_0 == 123) = false := beq_eq_false_iff_ne.mpr c13
              have c13b1 : (a0_0 != 123) = true := bne_iff_ne.mpr c13
              (first | rw [c13b0] | (simp only [i64_w, i32_w]; rw [c13b0]) | skip)
              have H' := Aside0.mk H
              clear H
              go_wp2
              go_meet
              case rel => exact ⟨_, ((⟨#[41]⟩ : ByteArray)), (by first | rfl | (simp; done) | (simp [*]; done)), H', ⟨by have := HJ5.out; first | omega | exact Nat.le_refl _⟩, ⟨by (with_reducible repeat (first | refine blk_drewN ?_ _ | refine blk_drew ?_ | refine blk_alloc ?_ _)); exact BK127.out⟩, ⟨by repeat (first | (with_reducible first | exact HB.out | apply below_alloc | apply pw_below_drewN | apply below_drew1 | refine below_set ?_ GE127.out) | exact HB.out)⟩⟩
          case rest =>
            clear HC11
            try clear c1
            try clear c2
            try clear c2b0
            try clear c2b1
            try clear p2
            try clear c3
            try clear c3b0
            try clear c3b1
            try clear c3b2
            try clear c9
            try clear c9b0
            try clear c9b1
            try clear c10
            try clear c13
            try clear c13b0
            try clear c13b1
            try clear hcz12_0
            try clear hcz12_1
            try clear hcz12_2
            try clear hcz12_3
            try clear hcz5_0
            try clear hcz5_1
            try clear hcz5_2
            try clear hcz5_3
            try clear hcz8_0
            try clear hcz8_1
            try clear hcz8_2
            try clear hcz8_3
            try clear hfz12_0
            try clear hfz12_1
            try clear hfz12_2
            try clear hfz12_3
            try clear hfz5_0
            try clear hfz5_1
            try clear hfz5_2
            try clear hfz5_3
            try clear hfz8_0
            try clear hfz8_1
            try clear hfz8_2
            try clear hfz8_3
            try clear p2
            obtain ⟨kq, x3_10, rfl, HA, HJ10, BK127, HB⟩ := hcut
            cases kq with
            | zero => exact absurd HA.out (by simp [spec_SigOf.j1])
            | succ kj10 =>
              have H := HA.out
              clear HA
              simp only [spec_SigOf.j1] at H
              obtain ⟨y128, hy128⟩ : ∃ y_ : List Int, y_ = (([a0_0] : List Int)) := ⟨_, rfl⟩
              replace H : (spec_SigOf.l0 kj10 x3_10 (strOfNums y128) l0_3 (l0_3.length : Int) 0) = some r := by first | (rw [hy128]; with_reducible exact H) | (have H2_ := (Option.bind_some _ _).symm.trans H; rw [hy128]; with_reducible exact H2_) | (have H2_ := (Option.bind_some _ _).symm.trans H; with_reducible exact H2_) | with_reducible exact H | (rw [hy128]; exact H) | exact H
              have Ny128 := Aside0.mk hy128
              clear hy128
              have H' := Aside0.mk H
              clear H
              have hcz14_0 : wc.cell? ⟨gb127, 0, none⟩ = some (.int .u8 a0_0) := (blk_cell BK127.out 0).trans rfl
              have hcz14_1 : wc.cell? ⟨gb127, 1, none⟩ = some (.int .u64 a0_1) := (blk_cell BK127.out 1).trans rfl
              have hcz14_2 : wc.cell? ⟨gb127, 2, none⟩ = some (.string a0_2) := (blk_cell BK127.out 2).trans rfl
              have hcz14_3 : wc.cell? ⟨gb127, 3, none⟩ = some (.slice A0_3 l0_3.length c0_3) := (blk_cell BK127.out 3).trans rfl
              have hfz14_0 := blk_frozen BK127.out 0
              have hfz14_1 := blk_frozen BK127.out 1
              have hfz14_2 := blk_frozen BK127.out 2
              have hfz14_3 := blk_frozen BK127.out 3
              go_wp2_with (first | ((with_reducible refine gate_dst (N := 22) rfl ?_); refine Kd.R_lit (Kd.int .u8) _ 5 ?hg (N := 22) ?hd (xs := ([a0_0] : List Int)) (inner := [.int .u8 a0_0]) (ok := fun _ => True) (okp := fun _ => True) ?hr ?hp (fun _ hk => hk) trivial (Below.refl _ _) (Nat.le_refl _) (by simp) ?_; (case hd => rfl); (case hg => rfl); (case hr => first | (go_simp; done) | (go_simp; rfl)); (case hp => exact (Reps.one (show Kd.M (Kd.int .u8) _ _ _ a0_0 [.int .u8 a0_0] from rfl) (Reps.none _ _))); intro v129 w15 ho16 hb hg_ hnew_; clear hg_ hnew_; (first | rw [← Ny128.out] at ho16 | (simp only [Int.reduceToNat] at ho16; rw [← Ny128.out] at ho16)); have n0_ := Aside0.mk (Kd.R_lower ho16 (below_size (by repeat (first | (with_reducible first | exact HB.out | apply below_alloc | apply pw_below_drewN | apply below_drew1 | refine below_set ?_ GE127.out) | exact HB.out)))); have n1_ := Aside0.mk (blk_below (g := gb127) (o := .cells #[.int .u8 a0_0, .int .u64 a0_1, .string a0_2, .slice A0_3 l0_3.length c0_3] 25 (0, 0)) (by (with_reducible repeat (first | refine blk_drewN ?_ _ | refine blk_drew ?_ | refine blk_alloc ?_ _)); exact BK127.out) hb); have n2_ := Aside0.mk (below_step (by repeat (first | (with_reducible first | exact HB.out | apply below_alloc | apply pw_below_drewN | apply below_drew1 | refine below_set ?_ GE127.out) | exact HB.out)) hb); clear BK127; clear HB; have HO130 := n0_; have BK127 := n1_; have HB := n2_; clear n0_ n1_ n2_; clear hb ho16; have hcv17 := own_string (P := Tryd.prog) Tryd.underlying30 Tryd.underlying5 Tryd.underlying9 (Kd.own_of_R HO130.out); have hcz18_0 : w15.cell? ⟨gb127, 0, none⟩ = some (.int .u8 a0_0) := (blk_cell BK127.out 0).trans rfl; have hcz18_1 : w15.cell? ⟨gb127, 1, none⟩ = some (.int .u64 a0_1) := (blk_cell BK127.out 1).trans rfl; have hcz18_2 : w15.cell? ⟨gb127, 2, none⟩ = some (.string a0_2) := (blk_cell BK127.out 2).trans rfl; have hcz18_3 : w15.cell? ⟨gb127, 3, none⟩ = some (.slice A0_3 l0_3.length c0_3) := (blk_cell BK127.out 3).trans rfl; have hfz18_0 := blk_frozen BK127.out 0; have hfz18_1 := blk_frozen BK127.out 1; have hfz18_2 := blk_frozen BK127.out 2; have hfz18_3 := blk_frozen BK127.out 3))
              go_loopg [4, 27] kj10 (fun kq v4 v27 w' => ∃ (x4_3 : ByteArray) (x27_3 : Int), v4 = .string x4_3 ∧ v27 = .int .i64 x27_3 ∧ Aside0 (spec_SigOf.l0 kq x3_10 x4_3 l0_3 (l0_3.length : Int) x27_3 = some r) ∧ Aside0 (kq ≤ kj10) ∧ Aside0 (w'.heap[gb127]? = some (.cells #[.int .u8 a0_0, .int .u64 a0_1, .string a0_2, (.slice A0_3 l0_3.length c0_3)] 25 (0, 0))) ∧ Aside0 (Below w.heap.size w w'))
              case atStart => exact ⟨(strOfNums y128), (0), (by first | rfl | (simp; done) | (simp [*]; done)), (by first | rfl | (simp; done) | (simp [*]; done)), H', ⟨Nat.le_refl _⟩, ⟨by (with_reducible repeat (first | refine blk_drewN ?_ _ | refine blk_drew ?_ | refine blk_alloc ?_ _)); exact BK127.out⟩, ⟨by repeat (first | (with_reducible first | exact HB.out | apply below_alloc | apply pw_below_drewN | apply below_drew1 | refine below_set ?_ GE127.out) | exact HB.out)⟩⟩
              case round =>
                clear H'
                try clear c1
                try clear hcv1
                try clear c2
                try clear c2b0
                try clear c2b1
                try clear p2
                try clear c3
                try clear c3b0
                try clear c3b1
                try clear c3b2
                try clear c9
                try clear c9b0
                try clear c9b1
                try clear c10
                try clear c13
                try clear c13b0
                try clear c13b1
                try clear c14
                try clear hcv17
                try clear hcz12_0
                try clear hcz12_1
                try clear hcz12_2
                try clear hcz12_3
                try clear hcz14_0
                try clear hcz14_1
                try clear hcz14_2
                try clear hcz14_3
                try clear hcz18_0
                try clear hcz18_1
                try clear hcz18_2
                try clear hcz18_3
                try clear hcz5_0
                try clear hcz5_1
                try clear hcz5_2
                try clear hcz5_3
                try clear hcz8_0
                try clear hcz8_1
                try clear hcz8_2
                try clear hcz8_3
                try clear hfz12_0
                try clear hfz12_1
                try clear hfz12_2
                try clear hfz12_3
                try clear hfz14_0
                try clear hfz14_1
                try clear hfz14_2
                try clear hfz14_3
                try clear hfz18_0
                try clear hfz18_1
                try clear hfz18_2
                try clear hfz18_3
                try clear hfz5_0
                try clear hfz5_1
                try clear hfz5_2
                try clear hfz5_3
                try clear hfz8_0
                try clear hfz8_1
                try clear hfz8_2
                try clear hfz8_3
                try clear p2
                obtain ⟨x4_3, x27_3, rfl, rfl, HA, HK3, BK127, HB⟩ := hrel
                cases gk with
                | zero => exact absurd HA.out (by simp [spec_SigOf.l0])
                | succ k3 =>
                  have H := HA.out
                  clear HA
                  simp only [spec_SigOf.l0] at H
                  by_cases c19 : x27_3 < (l0_3.length : Int)
                  · rw [if_pos c19] at H
                    have c19b0 : decide (x27_3 < (l0_3.length : Int)) = true := decide_eq_true c19
                    clear c19
                    by_cases c20 : 0 ≤ x27_3
                    · rw [if_pos c20] at H
                      have c20b0 : decide (0 ≤ x27_3) = true := decide_eq_true c20
                      clear c20
                      by_cases c21 : x27_3 < (l0_3.length : Int)
                      · rw [if_pos c21] at H
                        have c21b0 : decide (x27_3 < (l0_3.length : Int)) = true := decide_eq_true c21
                        clear c21
                        replace H := Option.bind_eq_some_iff.mp H
                        obtain ⟨t133, A220, H⟩ := H
                        replace H : (if x4_3.size + t133.size ≤ 9223372036854775807 then (spec_SigOf.l0 k3 x3_10 (x4_3 ++ t133) l0_3 (l0_3.length : Int) (wrap64 (x27_3 + 1))) else (none)) = some r := H
                        have A22 := Aside0.mk A220
                        clear A220
                        by_cases c23 : x4_3.size + t133.size ≤ 9223372036854775807
                        · rw [if_pos c23] at H
                          have c23b0 := eq_true c23
                          have c23b1 : decide (x4_3.size + t133.size ≤ 9223372036854775807) = true := decide_eq_true c23
                          try have c23b2 : (9223372036854775807 < x4_3.size + t133.size) = False := eq_false (Nat.not_lt.2 c23)
                          have H' := Aside0.mk H
                          clear H
                          have p131 : 0 ≤ (x27_3 : Int) := of_decide_eq_true (by first | (with_reducible assumption) | assumption)
                          have q131 : x27_3 < (l0_3.length : Int) := of_decide_eq_true (by first | (with_reducible assumption) | assumption)
                          obtain ⟨ad131, A131_3, c131_3, e131, hx131_0, hx131_1, hx131_2, hx131_3, hl131_3, hi131_3⟩ := at_T25 HR0_3.out x27_3 p131 q131
                          cases e131
                          replace hx131_0 := (HB.out.cell (World.block_lt_of_cell? w _ hx131_0)).trans hx131_0
                          replace hx131_1 := (HB.out.cell (World.block_lt_of_cell? w _ hx131_1)).trans hx131_1
                          replace hx131_2 := (HB.out.cell (World.block_lt_of_cell? w _ hx131_2)).trans hx131_2
                          replace hx131_3 := (HB.out.cell (World.block_lt_of_cell? w _ hx131_3)).trans hx131_3
                          have HR131_3 := Aside0.mk hi131_3
                          have HC131_3 := Aside0.mk hl131_3
                          clear hi131_3 hl131_3
                          replace p131 := eq_true p131
                          replace q131 := eq_true q131
                          go_wp2_with (first | ((with_reducible refine gate_dst (N := 6) rfl ?_); refine box_event ?hg (N := 6) ?hd (cs := #[.int .u8 0, .int .u64 0, .string (⟨#[]⟩ : ByteArray), .slice none 0 0]) (t := 25) ?hr ?_; (case hd => rfl); (case hg => rfl); (case hr => first | (go_simp; done) | (go_simp; rfl)); intro gb132 hg w24 hbox hb; have n0_ := Aside0.mk (blk_below (g := gb127) (o := .cells #[.int .u8 a0_0, .int .u64 a0_1, .string a0_2, .slice (some ad131) l0_3.length c0_3] 25 (0, 0)) (by (with_reducible repeat (first | refine blk_drewN ?_ _ | refine blk_drew ?_ | refine blk_alloc ?_ _)); exact BK127.out) hb); have n1_ := Aside0.mk (below_step (by repeat (first | (with_reducible first | exact HB.out | apply below_alloc | apply pw_below_drewN | apply below_drew1 | refine below_set ?_ GE127.out) | exact HB.out)) hb); have n2_ := Aside0.mk (hbox); have n3_ := Aside0.mk ((by rw [hg]; exact (below_size (by repeat (first | (with_reducible first | exact HB.out | apply below_alloc | apply pw_below_drewN | apply below_drew1 | refine below_set ?_ GE127.out) | exact HB.out))) : w.heap.size ≤ gb132)); have n4_ := Aside0.mk ((by rw [hg]; exact (below_size (by repeat (first | (with_reducible first | exact HB.out | apply below_alloc | apply pw_below_drewN | apply below_drew1 | refine below_set ?_ GE127.out) | exact HB.out))) : w.heap.size ≤ gb132)); have n5_ := Aside0.mk ((by rw [hg]; exact Nat.ne_of_lt (blk_lt (g := gb127) (o := .cells #[.int .u8 a0_0, .int .u64 a0_1, .string a0_2, .slice (some ad131) l0_3.length c0_3] 25 (0, 0)) (by (with_reducible repeat (first | refine blk_drewN ?_ _ | refine blk_drew ?_ | refine blk_alloc ?_ _)); exact BK127.out)) : gb127 ≠ gb132)); have n6_ := Aside0.mk ((by rw [hg]; exact Nat.ne_of_gt (blk_lt (g := gb127) (o := .cells #[.int .u8 a0_0, .int .u64 a0_1, .string a0_2, .slice (some ad131) l0_3.length c0_3] 25 (0, 0)) (by (with_reducible repeat (first | refine blk_drewN ?_ _ | refine blk_drew ?_ | refine blk_alloc ?_ _)); exact BK127.out)) : gb132 ≠ gb127)); clear BK127; clear HB; have BK127 := n0_; have HB := n1_; have BK132 := n2_; have GW132 := n3_; have GE132 := n4_; have NB127_132 := n5_; have NB132_127 := n6_; clear n0_ n1_ n2_ n3_ n4_ n5_ n6_; clear hb hbox hg; have hnb25 := NB132_127.out; have hnc25 := NB127_132.out; have hcz26_0 : w24.cell? ⟨gb132, 0, none⟩ = some (.int .u8 0) := (blk_cell BK132.out 0).trans rfl; have hcz26_1 : w24.cell? ⟨gb132, 1, none⟩ = some (.int .u64 0) := (blk_cell BK132.out 1).trans rfl; have hcz26_2 : w24.cell? ⟨gb132, 2, none⟩ = some (.string (⟨#[]⟩ : ByteArray)) := (blk_cell BK132.out 2).trans rfl; have hcz26_3 : w24.cell? ⟨gb132, 3, none⟩ = some (.slice none 0 0) := (blk_cell BK132.out 3).trans rfl; have hfz26_0 := blk_frozen BK132.out 0; have hfz26_1 := blk_frozen BK132.out 1; have hfz26_2 := blk_frozen BK132.out 2; have hfz26_3 := blk_frozen BK132.out 3) | ((with_reducible refine gate_callee (f := 14) rfl ?_); refine goesL_ (some 33) rfl rfl Tryd.func14 (by kernel_rfl) rfl #[.agg #[.int .u8 ((rd_T25 l0_3 x27_3).f0), .int .u64 ((rd_T25 l0_3 x27_3).f1), .string ((rd_T25 l0_3 x27_3).f2), .slice A131_3 ((rd_T25 l0_3 x27_3).f3).length c131_3]] rfl (by (try simp only [List.map_toArray, List.map_cons, List.map_nil]); first | done | rfl | (simp only [List.length_drop, List.length_take]; rfl)) ?_; (with_reducible refine (ih k3 (by have := HJ5.out; have := HJ10.out; have := HK3.out; omega) ((rd_T25 l0_3 x27_3).f0) ((rd_T25 l0_3 x27_3).f1) ((rd_T25 l0_3 x27_3).f2) _ _ ((rd_T25 l0_3 x27_3).f3) t133 _ ?side1 ?side2 A22.out).mono ?_); (case side1 => exact Kd.C_below HR131_3.out (by repeat (first | (with_reducible first | exact HB.out | apply below_alloc | apply pw_below_drewN | apply below_drew1 | refine below_set ?_ GE127.out | refine below_set ?_ GE132.out) | exact HB.out))); (case side2 => exact HC131_3.out); rintro e w27 ⟨rfl, hb⟩; refine ⟨_, rfl, ?_⟩; have n0_ := Aside0.mk (blk_below (g := gb127) (o := .cells #[.int .u8 a0_0, .int .u64 a0_1, .string a0_2, .slice (some ad131) l0_3.length c0_3] 25 (0, 0)) (by (with_reducible repeat (first | refine blk_drewN ?_ _ | refine blk_drew ?_ | refine blk_alloc ?_ _)); refine blk_far ?_ NB127_132.out _; (with_reducible repeat (first | refine blk_drewN ?_ _ | refine blk_drew ?_ | refine blk_alloc ?_ _)); refine blk_far ?_ NB127_132.out _; (with_reducible repeat (first | refine blk_drewN ?_ _ | refine blk_drew ?_ | refine blk_alloc ?_ _)); refine blk_far ?_ NB127_132.out _; (with_reducible repeat (first | refine blk_drewN ?_ _ | refine blk_drew ?_ | refine blk_alloc ?_ _)); refine blk_far ?_ NB127_132.out _; (with_reducible repeat (first | refine blk_drewN ?_ _ | refine blk_drew ?_ | refine blk_alloc ?_ _)); exact BK127.out) hb); have n1_ := Aside0.mk (blk_below (g := gb132) (o := .cells #[.int .u8 ((rd_T25 l0_3 x27_3).f0), .int .u64 ((rd_T25 l0_3 x27_3).f1), .string ((rd_T25 l0_3 x27_3).f2), .slice A131_3 ((rd_T25 l0_3 x27_3).f3).length c131_3] 25 (0, 0)) (by (with_reducible repeat (first | refine blk_drewN ?_ _ | refine blk_drew ?_ | refine blk_alloc ?_ _)); refine blk_put (cs := #[.int .u8 ((rd_T25 l0_3 x27_3).f0), .int .u64 ((rd_T25 l0_3 x27_3).f1), .string ((rd_T25 l0_3 x27_3).f2), .slice none 0 0]) ?_ 3 _ rfl; (with_reducible repeat (first | refine blk_drewN ?_ _ | refine blk_drew ?_ | refine blk_alloc ?_ _)); refine blk_put (cs := #[.int .u8 ((rd_T25 l0_3 x27_3).f0), .int .u64 ((rd_T25 l0_3 x27_3).f1), .string (⟨#[]⟩ : ByteArray), .slice none 0 0]) ?_ 2 _ rfl; (with_reducible repeat (first | refine blk_drewN ?_ _ | refine blk_drew ?_ | refine blk_alloc ?_ _)); refine blk_put (cs := #[.int .u8 ((rd_T25 l0_3 x27_3).f0), .int .u64 0, .string (⟨#[]⟩ : ByteArray), .slice none 0 0]) ?_ 1 _ rfl; (with_reducible repeat (first | refine blk_drewN ?_ _ | refine blk_drew ?_ | refine blk_alloc ?_ _)); refine blk_put (cs := #[.int .u8 0, .int .u64 0, .string (⟨#[]⟩ : ByteArray), .slice none 0 0]) ?_ 0 _ rfl; (with_reducible repeat (first | refine blk_drewN ?_ _ | refine blk_drew ?_ | refine blk_alloc ?_ _)); exact BK132.out) hb); have n2_ := Aside0.mk (below_step (by repeat (first | (with_reducible first | exact HB.out | apply below_alloc | apply pw_below_drewN | apply below_drew1 | refine below_set ?_ GE127.out | refine below_set ?_ GE132.out) | exact HB.out)) hb); clear BK127; clear BK132; clear HB; have BK127 := n0_; have BK132 := n1_; have HB := n2_; clear n0_ n1_ n2_; (try clear hb); (try clear hb2); (try clear hk); (try clear hi)))
                          go_roundg k3
                          case measure => have := HJ5.out; have := HJ10.out; have := HK3.out; omega
                          case rel => exact ⟨(x4_3 ++ t133), (wrap64 (x27_3 + 1)), (by first | rfl | (simp; done) | (simp [*]; done)), (by first | rfl | (simp; done) | (simp [*]; done)), H', ⟨by have := HJ5.out; have := HJ10.out; have := HK3.out; omega⟩, ⟨by (with_reducible repeat (first | refine blk_drewN ?_ _ | refine blk_drew ?_ | refine blk_alloc ?_ _)); exact BK127.out⟩, ⟨by repeat (first | (with_reducible first | exact HB.out | apply below_alloc | apply pw_below_drewN | apply below_drew1 | refine below_set ?_ GE127.out | refine below_set ?_ GE132.out) | exact HB.out)⟩⟩
                        · rw [if_neg c23] at H
                          exact absurd H (by simp)
                      · rw [if_neg c21] at H
                        exact absurd H (by simp)
                    · rw [if_neg c20] at H
                      exact absurd H (by simp)
                  · rw [if_neg c19] at H
                    have c19b0 : decide (x27_3 < (l0_3.length : Int)) = false := decide_eq_false c19
                    clear c19
                    by_cases c28 : x4_3.size + x3_10.size ≤ 9223372036854775807
                    · rw [if_pos c28] at H
                      have c28b0 := eq_true c28
                      have c28b1 : decide (x4_3.size + x3_10.size ≤ 9223372036854775807) = true := decide_eq_true c28
                      try have c28b2 : (9223372036854775807 < x4_3.size + x3_10.size) = False := eq_false (Nat.not_lt.2 c28)
                      obtain rfl := Option.some.inj H
                      go_wp2
                      go_ret
                      exact ⟨by first | rfl | (simp [errW_none, errW_some] <;> rfl) | (simp [*, errW_none, errW_some] <;> rfl), by repeat (first | (with_reducible first | exact HB.out | apply below_alloc | apply pw_below_drewN | apply below_drew1 | refine below_set ?_ GE127.out) | exact HB.out)⟩
                    · rw [if_neg c28] at H
                      exact absurd H (by simp)
        · replace c10 := Bool.eq_false_iff.mpr c10
          subst c10
          have H1 : (some (strOfNums (([a0_0] : List Int)))) = some r := by rw [if_neg (show ¬ (false = true) by decide)] at H; exact H
          clear H
          have H := H1
          clear H1
          obtain ⟨y134, hy134⟩ : ∃ y_ : List Int, y_ = (([a0_0] : List Int)) := ⟨_, rfl⟩
          replace H : (some (strOfNums y134)) = some r := by first | (rw [hy134]; with_reducible exact H) | (have H2_ := (Option.bind_some _ _).symm.trans H; rw [hy134]; with_reducible exact H2_) | (have H2_ := (Option.bind_some _ _).symm.trans H; with_reducible exact H2_) | with_reducible exact H | (rw [hy134]; exact H) | exact H
          have Ny134 := Aside0.mk hy134
          clear hy134
          obtain rfl := Option.some.inj H
          have hcz29_0 : wc.cell? ⟨gb127, 0, none⟩ = some (.int .u8 a0_0) := (blk_cell BK127.out 0).trans rfl
          have hcz29_1 : wc.cell? ⟨gb127, 1, none⟩ = some (.int .u64 a0_1) := (blk_cell BK127.out 1).trans rfl
          have hcz29_2 : wc.cell? ⟨gb127, 2, none⟩ = some (.string a0_2) := (blk_cell BK127.out 2).trans rfl
          have hcz29_3 : wc.cell? ⟨gb127, 3, none⟩ = some (.slice A0_3 l0_3.length c0_3) := (blk_cell BK127.out 3).trans rfl
          have hfz29_0 := blk_frozen BK127.out 0
          have hfz29_1 := blk_frozen BK127.out 1
          have hfz29_2 := blk_frozen BK127.out 2
          have hfz29_3 := blk_frozen BK127.out 3
          go_wp2_with (first | ((with_reducible refine gate_dst (N := 41) rfl ?_); refine Kd.R_lit (Kd.int .u8) _ 5 ?hg (N := 41) ?hd (xs := ([a0_0] : List Int)) (inner := [.int .u8 a0_0]) (ok := fun _ => True) (okp := fun _ => True) ?hr ?hp (fun _ hk => hk) trivial (Below.refl _ _) (Nat.le_refl _) (by simp) ?_; (case hd => rfl); (case hg => rfl); (case hr => first | (go_simp; done) | (go_simp; rfl)); (case hp => exact (Reps.one (show Kd.M (Kd.int .u8) _ _ _ a0_0 [.int .u8 a0_0] from rfl) (Reps.none _ _))); intro v135 w30 ho31 hb hg_ hnew_; clear hg_ hnew_; (first | rw [← Ny134.out] at ho31 | (simp only [Int.reduceToNat] at ho31; rw [← Ny134.out] at ho31)); have n0_ := Aside0.mk (Kd.R_lower ho31 (below_size (by repeat (first | (with_reducible first | exact HB.out | apply below_alloc | apply pw_below_drewN | apply below_drew1 | refine below_set ?_ GE127.out) | exact HB.out)))); have n1_ := Aside0.mk (blk_below (g := gb127) (o := .cells #[.int .u8 a0_0, .int .u64 a0_1, .string a0_2, .slice A0_3 l0_3.length c0_3] 25 (0, 0)) (by (with_reducible repeat (first | refine blk_drewN ?_ _ | refine blk_drew ?_ | refine blk_alloc ?_ _)); exact BK127.out) hb); have n2_ := Aside0.mk (below_step (by repeat (first | (with_reducible first | exact HB.out | apply below_alloc | apply pw_below_drewN | apply below_drew1 | refine below_set ?_ GE127.out) | exact HB.out)) hb); clear BK127; clear HB; have HO136 := n0_; have BK127 := n1_; have HB := n2_; clear n0_ n1_ n2_; clear hb ho31; have hcv32 := own_string (P := Tryd.prog) Tryd.underlying30 Tryd.underlying5 Tryd.underlying9 (Kd.own_of_R HO136.out)))
          go_ret
          exact ⟨by first | rfl | (simp [errW_none, errW_some] <;> rfl) | (simp [*, errW_none, errW_some] <;> rfl), by repeat (first | (with_reducible first | exact HB.out | apply below_alloc | apply pw_below_drewN | apply below_drew1 | refine below_set ?_ GE127.out) | exact HB.out)⟩
def spec_inRange.f (a0 : Int) (a1 : Int) : Option (Bool) := if a0 = 121 then (some (decide (a1 < 256))) else (if a0 = 98 then (some (decide (a1 < 2))) else (if a0 = 110 then (some ((IntKind.u64.wrap (wrap64 (IntKind.i16.wrap (a1)))) == a1)) else (if a0 = 113 then (some (decide (a1 < 65536))) else (if a0 = 105 then (some ((IntKind.u64.wrap (wrap64 (wrap32 (a1)))) == a1)) else (if a0 = 117 then (some (decide (a1 < 4294967296))) else (if a0 = 104 then (some (decide (a1 < 4294967296))) else (if a0 = 120 then (some true) else (if a0 = 116 then (some true) else (if a0 = 100 then (some true) else (some (a1 == 0)))))))))))
set_option maxHeartbeats 8000000 in
set_option maxRecDepth 100000 in
theorem spec_inRange.calls (a0 : Int) (a1 : Int) (r : Bool) (w : World) (h : spec_inRange.f a0 a1 = some r) :
    Calls Tryd.prog 22 #[.int .u8 a0, .int .u64 a1] w fun e w' => e = .returned (.bool r) ∧ Drawn0 w w' := by
  have H : (if a0 = 121 then (some (decide (a1 < 256))) else (if a0 = 98 then (some (decide (a1 < 2))) else (if a0 = 110 then (some ((IntKind.u64.wrap (wrap64 (IntKind.i16.wrap (a1)))) == a1)) else (if a0 = 113 then (some (decide (a1 < 65536))) else (if a0 = 105 then (some ((IntKind.u64.wrap (wrap64 (wrap32 (a1)))) == a1)) else (if a0 = 117 then (some (decide (a1 < 4294967296))) else (if a0 = 104 then (some (decide (a1 < 4294967296))) else (if a0 = 120 then (some true) else (if a0 = 116 then (some true) else (if a0 = 100 then (some true) else (some (a1 == 0)))))))))))) = some r := h
  clear h
  by_cases c3 : a0 = 121
  · rw [if_pos c3] at H
    have c3b0 : (a0 == 121) = true := beq_iff_eq.mpr c3
    have c3b1 : (a0 != 121) = false := bne_eq_false_iff_eq.mpr c3
    clear c3
    obtain rfl := Option.some.inj H
    go_enter Tryd.func22, Tryd.ntmps22
    go_wp2
    go_ret
    exact ⟨by first | rfl | (simp; done) | (simp [*]; done), by repeat (first | exact Drawn0.refl _ | apply Drawn0.step)⟩
  · rw [if_neg c3] at H
    have c3b0 : (a0 == 121) = false := beq_eq_false_iff_ne.mpr c3
    have c3b1 : (a0 != 121) = true := bne_iff_ne.mpr c3
    by_cases c4 : a0 = 98
    · rw [if_pos c4] at H
      have c4b0 : (a0 == 98) = true := beq_iff_eq.mpr c4
      have c4b1 : (a0 != 98) = false := bne_eq_false_iff_eq.mpr c4
      clear c4
      obtain rfl := Option.some.inj H
      go_enter Tryd.func22, Tryd.ntmps22
      go_wp2
      go_ret
      exact ⟨by first | rfl | (simp; done) | (simp [*]; done), by repeat (first | exact Drawn0.refl _ | apply Drawn0.step)⟩
    · rw [if_neg c4] at H
      have c4b0 : (a0 == 98) = false := beq_eq_false_iff_ne.mpr c4
      have c4b1 : (a0 != 98) = true := bne_iff_ne.mpr c4
      by_cases c5 : a0 = 110
      · rw [if_pos c5] at H
        have c5b0 : (a0 == 110) = true := beq_iff_eq.mpr c5
        have c5b1 : (a0 != 110) = false := bne_eq_false_iff_eq.mpr c5
        clear c5
        obtain rfl := Option.some.inj H
        go_enter Tryd.func22, Tryd.ntmps22
        go_wp2
        go_ret
        exact ⟨by first | rfl | (simp; done) | (simp [*]; done), by repeat (first | exact Drawn0.refl _ | apply Drawn0.step)⟩
      · rw [if_neg c5] at H
        have c5b0 : (a0 == 110) = false := beq_eq_false_iff_ne.mpr c5
        have c5b1 : (a0 != 110) = true := bne_iff_ne.mpr c5
        by_cases c6 : a0 = 113
        · rw [if_pos c6] at H
          have c6b0 : (a0 == 113) = true := beq_iff_eq.mpr c6
          have c6b1 : (a0 != 113) = false := bne_eq_false_iff_eq.mpr c6
          clear c6
          obtain rfl := Option.some.inj H
          go_enter Tryd.func22, Tryd.ntmps22
          go_wp2
          go_ret
          exact ⟨by first | rfl | (simp; done) | (simp [*]; done), by repeat (first | exact Drawn0.refl _ | apply Drawn0.step)⟩
        · rw [if_neg c6] at H
          have c6b0 : (a0 == 113) = false := beq_eq_false_iff_ne.mpr c6
          have c6b1 : (a0 != 113) = true := bne_iff_ne.mpr c6
          by_cases c7 : a0 = 105
          · rw [if_pos c7] at H
            have c7b0 : (a0 == 105) = true := beq_iff_eq.mpr c7
            have c7b1 : (a0 != 105) = false := bne_eq_false_iff_eq.mpr c7
            clear c7
            obtain rfl := Option.some.inj H
            go_enter Tryd.func22, Tryd.ntmps22
            go_wp2
            go_ret
            exact ⟨by first | rfl | (simp; done) | (simp [*]; done), by repeat (first | exact Drawn0.refl _ | apply Drawn0.step)⟩
          · rw [if_neg c7] at H
            have c7b0 : (a0 == 105) = false := beq_eq_false_iff_ne.mpr c7
            have c7b1 : (a0 != 105) = true := bne_iff_ne.mpr c7
            by_cases c8 : a0 = 117
            · rw [if_pos c8] at H
              have c8b0 : (a0 == 117) = true := beq_iff_eq.mpr c8
              have c8b1 : (a0 != 117) = false := bne_eq_false_iff_eq.mpr c8
              clear c8
              obtain rfl := Option.some.inj H
              go_enter Tryd.func22, Tryd.ntmps22
              go_wp2
              go_ret
              exact ⟨by first | rfl | (simp; done) | (simp [*]; done), by repeat (first | exact Drawn0.refl _ | apply Drawn0.step)⟩
            · rw [if_neg c8] at H
              have c8b0 : (a0 == 117) = false := beq_eq_false_iff_ne.mpr c8
              have c8b1 : (a0 != 117) = true := bne_iff_ne.mpr c8
              by_cases c9 : a0 = 104
              · rw [if_pos c9] at H
                have c9b0 : (a0 == 104) = true := beq_iff_eq.mpr c9
                have c9b1 : (a0 != 104) = false := bne_eq_false_iff_eq.mpr c9
                clear c9
                obtain rfl := Option.some.inj H
                go_enter Tryd.func22, Tryd.ntmps22
                go_wp2
                go_ret
                exact ⟨by first | rfl | (simp; done) | (simp [*]; done), by repeat (first | exact Drawn0.refl _ | apply Drawn0.step)⟩
              · rw [if_neg c9] at H
                have c9b0 : (a0 == 104) = false := beq_eq_false_iff_ne.mpr c9
                have c9b1 : (a0 != 104) = true := bne_iff_ne.mpr c9
                by_cases c10 : a0 = 120
                · rw [if_pos c10] at H
                  have c10b0 : (a0 == 120) = true := beq_iff_eq.mpr c10
                  have c10b1 : (a0 != 120) = false := bne_eq_false_iff_eq.mpr c10
                  clear c10
                  obtain rfl := Option.some.inj H
                  go_enter Tryd.func22, Tryd.ntmps22
                  go_wp2
                  go_ret
                  exact ⟨by first | rfl | (simp; done) | (simp [*]; done), by repeat (first | exact Drawn0.refl _ | apply Drawn0.step)⟩
                · rw [if_neg c10] at H
                  have c10b0 : (a0 == 120) = false := beq_eq_false_iff_ne.mpr c10
                  have c10b1 : (a0 != 120) = true := bne_iff_ne.mpr c10
                  by_cases c11 : a0 = 116
                  · rw [if_pos c11] at H
                    have c11b0 : (a0 == 116) = true := beq_iff_eq.mpr c11
                    have c11b1 : (a0 != 116) = false := bne_eq_false_iff_eq.mpr c11
                    clear c11
                    obtain rfl := Option.some.inj H
                    go_enter Tryd.func22, Tryd.ntmps22
                    go_wp2
                    go_ret
                    exact ⟨by first | rfl | (simp; done) | (simp [*]; done), by repeat (first | exact Drawn0.refl _ | apply Drawn0.step)⟩
                  · rw [if_neg c11] at H
                    have c11b0 : (a0 == 116) = false := beq_eq_false_iff_ne.mpr c11
                    have c11b1 : (a0 != 116) = true := bne_iff_ne.mpr c11
                    by_cases c12 : a0 = 100
                    · rw [if_pos c12] at H
                      have c12b0 : (a0 == 100) = true := beq_iff_eq.mpr c12
                      have c12b1 : (a0 != 100) = false := bne_eq_false_iff_eq.mpr c12
                      clear c12
                      obtain rfl := Option.some.inj H
                      go_enter Tryd.func22, Tryd.ntmps22
                      go_wp2
                      go_ret
                      exact ⟨by first | rfl | (simp; done) | (simp [*]; done), by repeat (first | exact Drawn0.refl _ | apply Drawn0.step)⟩
                    · rw [if_neg c12] at H
                      have c12b0 : (a0 == 100) = false := beq_eq_false_iff_ne.mpr c12
                      have c12b1 : (a0 != 100) = true := bne_iff_ne.mpr c12
                      obtain rfl := Option.some.inj H
                      go_enter Tryd.func22, Tryd.ntmps22
                      go_wp2
                      go_ret
                      exact ⟨by first | rfl | (simp; done) | (simp [*]; done), by repeat (first | exact Drawn0.refl _ | apply Drawn0.step)⟩
end Go.Proofs.YtnojjfklnihmnaaDoor.PFnSgOfParts

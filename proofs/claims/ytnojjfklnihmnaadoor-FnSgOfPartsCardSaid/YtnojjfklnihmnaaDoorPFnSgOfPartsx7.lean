/- Part of the proof of LawFnSgOfParts. -/
import Derived.Test.YtnojjfklnihmnaaDoorGvBd
import Derived.Test.YtnojjfklnihmnaaDoorPFnSgOfPartsx5
import Derived.Test.YtnojjfklnihmnaaDoorPFnSgOfPartsx6
set_option linter.unusedVariables false
set_option linter.unusedSimpArgs false
namespace Go.Proofs.YtnojjfklnihmnaaDoor.PFnSgOfParts
open Go.RowKit Go.Proofs.YtnojjfklnihmnaaDoorW.PrintWords Go.Proofs.YtnojjfklnihmnaaDoorW.PrintLast Go.Proofs.YtnojjfklnihmnaaDoorW.PrintMore
attribute [local go_sem] max2_int min2_int max_two min_two max_three min_three max_four min_four   -- for this text's walks alone
set_option linter.unusedVariables false
set_option linter.unusedSimpArgs false
def dbus_zzType_fields.l0 : Nat → ByteArray → List ByteArray → Int → Option (List ByteArray)
  | 0, _, _, _ => none
  | k + 1, x0, x3, x4 => if x4 < (x0.size : Int) then (if 0 ≤ x4 then (if (bt x0 x4) = 41 then (some x3) else (if x4 ≤ (x0.size : Int) then ((dbus_zzEnd.f k (x0.extract (x4 : Int).toNat x0.size)).bind fun t165 => (if x4 ≤ (wrap64 (x4 + t165)) then (if (wrap64 (x4 + t165)) ≤ (x0.size : Int) then (if x3.length < 8796093022208 then (dbus_zzType_fields.l0 k x0 (x3 ++ [x0.extract (x4 : Int).toNat ((wrap64 (x4 + t165)) : Int).toNat]) (wrap64 (x4 + t165))) else (none)) else (none)) else (none))) else (none))) else (none)) else (some x3)
def dbus_zzType_fields.f (k : Nat) (a0 : ByteArray) : Option (List ByteArray) := dbus_zzType_fields.l0 k a0 ([] : List ByteArray) 1
set_option maxHeartbeats 8000000 in
set_option maxRecDepth 100000 in
theorem dbus_zzType_fields.calls (k : Nat) (a0 : ByteArray) (r : List ByteArray) (w : World) (h : dbus_zzType_fields.f k a0 = some r) :
    Calls Tryd.prog 56 #[.string a0] w fun e w' => ∃ v0_ : Value, e = .returned (v0_) ∧ Kd.R Kd.string 57 w' w.heap.size (fun _ => True) v0_ r ∧ Below w.heap.size w w' := by
  have HB := Aside0.mk (Below.refl w.heap.size w)
  have H : (dbus_zzType_fields.l0 k a0 ([] : List ByteArray) 1) = some r := h
  clear h
  have H' := Aside0.mk H
  clear H
  go_enter Tryd.func56, Tryd.ntmps56
  go_wp2
  go_loopg [3, 4] k (fun kq v3 v4 w' => ∃ (x3_1 : List ByteArray) (x4_1 : Int), v4 = .int .i64 x4_1 ∧ Aside0 (dbus_zzType_fields.l0 kq a0 x3_1 x4_1 = some r) ∧ Aside0 (kq ≤ k) ∧ Aside0 (Kd.R Kd.string 57 w' w.heap.size (fun _ => True) v3 x3_1) ∧ Aside0 (Below w.heap.size w w'))
  case atStart => exact ⟨(([] : List ByteArray)), (1), (by first | rfl | (simp; done) | (simp [*]; done)), H', ⟨Nat.le_refl _⟩, ⟨by first | exact Kd.R_nil _ _ _ _ _ | exact Kd.N_nil _ _ _ _ _ | exact Kd.V_nil _ _ _ _ _ | exact Kd.Q_nil _ _ _ _ _ | exact Kd.S_nil _ _ _ _ _⟩, ⟨by repeat (first | (with_reducible first | exact HB.out | apply below_alloc | apply pw_below_drewN | apply below_drew1) | exact HB.out)⟩⟩
  case round =>
    clear H'
    obtain ⟨x3_1, x4_1, rfl, HA, HK1, HO_3, HB⟩ := hrel
    cases gk with
    | zero => exact absurd HA.out (by simp [dbus_zzType_fields.l0])
    | succ k1 =>
      have H := HA.out
      clear HA
      simp only [dbus_zzType_fields.l0] at H
      by_cases c2 : x4_1 < (a0.size : Int)
      · rw [if_pos c2] at H
        have c2b0 : decide (x4_1 < (a0.size : Int)) = true := decide_eq_true c2
        clear c2
        by_cases c3 : 0 ≤ x4_1
        · rw [if_pos c3] at H
          have c3b0 : decide (0 ≤ x4_1) = true := decide_eq_true c3
          clear c3
          by_cases c5 : (bt a0 x4_1) = 41
          · rw [if_pos c5] at H
            have c5b0 : ((bt a0 x4_1) == 41) = true := beq_iff_eq.mpr c5
            have c5b1 : ((bt a0 x4_1) != 41) = false := bne_eq_false_iff_eq.mpr c5
            clear c5
            obtain rfl := Option.some.inj H
            have p4 : 0 ≤ (x4_1 : Int) := of_decide_eq_true (by first | (with_reducible assumption) | assumption)
            have q4 : x4_1 < (a0.size : Int) := of_decide_eq_true (by first | (with_reducible assumption) | assumption)
            have hx4 := bt_at a0 x4_1
            replace p4 := eq_true p4
            replace q4 := eq_true q4
            go_wp2
            go_ret
            exact ⟨_, by first | rfl | (simp [errW_none, errW_some] <;> rfl) | (simp [*, errW_none, errW_some] <;> rfl), by (with_reducible repeat (first | apply Kd.R_alloc | apply Kd.R_drewN | apply Kd.R_drew)); exact HO_3.out, by repeat (first | (with_reducible first | exact HB.out | apply below_alloc | apply pw_below_drewN | apply below_drew1) | exact HB.out)⟩
          · rw [if_neg c5] at H
            have c5b0 : ((bt a0 x4_1) == 41) = false := beq_eq_false_iff_ne.mpr c5
            have c5b1 : ((bt a0 x4_1) != 41) = true := bne_iff_ne.mpr c5
            have c6b0 := eq_true (of_decide_eq_true (by first | (with_reducible assumption) | assumption) : 0 ≤ x4_1)
            by_cases c7 : x4_1 ≤ (a0.size : Int)
            · rw [if_pos c7] at H
              have c7b0 := eq_true c7
              have c7b1 : decide (x4_1 ≤ (a0.size : Int)) = true := decide_eq_true c7
              clear c7
              replace H := Option.bind_eq_some_iff.mp H
              obtain ⟨t165, A80, H⟩ := H
              replace H : (if x4_1 ≤ (wrap64 (x4_1 + t165)) then (if (wrap64 (x4_1 + t165)) ≤ (a0.size : Int) then (if x3_1.length < 8796093022208 then (dbus_zzType_fields.l0 k1 a0 (x3_1 ++ [a0.extract (x4_1 : Int).toNat ((wrap64 (x4_1 + t165)) : Int).toNat]) (wrap64 (x4_1 + t165))) else (none)) else (none)) else (none)) = some r := H
              have A8 := Aside0.mk A80
              clear A80
              have c9b0 := eq_true (of_decide_eq_true (by first | (with_reducible assumption) | assumption) : 0 ≤ x4_1)
              by_cases c10 : x4_1 ≤ (wrap64 (x4_1 + t165))
              · rw [if_pos c10] at H
                have c10b0 := eq_true c10
                have c10b1 : decide (x4_1 ≤ (wrap64 (x4_1 + t165))) = true := decide_eq_true c10
                by_cases c11 : (wrap64 (x4_1 + t165)) ≤ (a0.size : Int)
                · rw [if_pos c11] at H
                  have c11b0 := eq_true c11
                  have c11b1 : decide ((wrap64 (x4_1 + t165)) ≤ (a0.size : Int)) = true := decide_eq_true c11
                  by_cases c12 : x3_1.length < 8796093022208
                  · rw [if_pos c12] at H
                    have LMc12 := Aside0.mk c12
                    clear c12
                    obtain ⟨y166, hy166⟩ : ∃ y_ : List ByteArray, y_ = (x3_1 ++ [a0.extract (x4_1 : Int).toNat ((wrap64 (x4_1 + t165)) : Int).toNat]) := ⟨_, rfl⟩
                    replace H : (dbus_zzType_fields.l0 k1 a0 y166 (wrap64 (x4_1 + t165))) = some r := by first | (rw [hy166]; with_reducible exact H) | (have H2_ := (Option.bind_some _ _).symm.trans H; rw [hy166]; with_reducible exact H2_) | (have H2_ := (Option.bind_some _ _).symm.trans H; with_reducible exact H2_) | with_reducible exact H | (rw [hy166]; exact H) | exact H
                    have Ny166 := Aside0.mk hy166
                    clear hy166
                    have H' := Aside0.mk H
                    clear H
                    have p4 : 0 ≤ (x4_1 : Int) := of_decide_eq_true (by first | (with_reducible assumption) | assumption)
                    have q4 : x4_1 < (a0.size : Int) := of_decide_eq_true (by first | (with_reducible assumption) | assumption)
                    have hx4 := bt_at a0 x4_1
                    replace p4 := eq_true p4
                    replace q4 := eq_true q4
                    go_wp2_with (first | ((with_reducible refine gate_callee (f := 60) rfl ?_); refine goesL_ (some 19) rfl rfl Tryd.func60 (by kernel_rfl) rfl #[.string (a0.extract (x4_1 : Int).toNat a0.size)] rfl (by (try simp only [List.map_toArray, List.map_cons, List.map_nil]); first | done | rfl | (simp only [List.length_drop, List.length_take]; rfl)) ?_; (with_reducible refine (dbus_zzEnd.calls k1 (a0.extract (x4_1 : Int).toNat a0.size) t165 _ A8.out).mono ?_); rintro e w' ⟨rfl, ⟨nd, rfl⟩⟩; refine ⟨_, rfl, ?_⟩) | ((with_reducible refine gate_builtin (b := .append) (xs := #[.tmp 20, .tmp 27]) rfl ?_); at_builtin; refine Kd.R_append Kd.string (w0 := w) w.heap.size rfl (.tmp 20) (.tmp 27) 116 57 (.string ⟨#[]⟩) 16 rfl Tryd.underlying116 info57 rfl (by decide) (by omega) u3 x3_1 (a0.extract (x4_1 : Int).toNat ((wrap64 (x4_1 + t165)) : Int).toNat) [.string (a0.extract (x4_1 : Int).toNat ((wrap64 (x4_1 + t165)) : Int).toNat)] (fun _ => True) (fun _ => False) rfl rfl ?aP (fun _ hk => hk.elim) ?aF ?aO ?aB ?aS ?aL ?_; (case aP => exact rfl); (case aB => exact (by repeat (first | (with_reducible first | exact HB.out | apply below_alloc | apply pw_below_drewN | apply below_drew1) | exact HB.out))); (case aF => exact (fun _ _ => trivial)); (case aO => exact (by (with_reducible repeat (first | apply Kd.R_alloc | apply Kd.R_drewN | apply Kd.R_drew)); exact HO_3.out)); (case aS => exact (below_size (by repeat (first | (with_reducible first | exact HB.out | apply below_alloc | apply pw_below_drewN | apply below_drew1) | exact HB.out)))); (case aL => have := LMc12.out; omega); intro v167 w13 ho hb hg hat; rw [← Ny166.out] at ho; have n0_ := Aside0.mk (hb); have n1_ := Aside0.mk (ho); clear HB; clear HO_3; have HB := n0_; have HO168 := n1_; clear n0_ n1_; clear ho hb hg hat))
                    go_roundg k1
                    case measure => have := HK1.out; omega
                    case rel => exact ⟨(y166), (wrap64 (x4_1 + t165)), (by first | rfl | (simp; done) | (simp [*]; done)), H', ⟨by have := HK1.out; omega⟩, ⟨by (with_reducible repeat (first | apply Kd.R_alloc | apply Kd.R_drewN | apply Kd.R_drew)); exact HO168.out⟩, ⟨by repeat (first | (with_reducible first | exact HB.out | apply below_alloc | apply pw_below_drewN | apply below_drew1) | exact HB.out)⟩⟩
                  · rw [if_neg c12] at H
                    exact absurd H (by simp)
                · rw [if_neg c11] at H
                  exact absurd H (by simp)
              · rw [if_neg c10] at H
                exact absurd H (by simp)
            · rw [if_neg c7] at H
              exact absurd H (by simp)
        · rw [if_neg c3] at H
          exact absurd H (by simp)
      · rw [if_neg c2] at H
        have c2b0 : decide (x4_1 < (a0.size : Int)) = false := decide_eq_false c2
        clear c2
        obtain rfl := Option.some.inj H
        go_wp2
        go_ret
        exact ⟨_, by first | rfl | (simp [errW_none, errW_some] <;> rfl) | (simp [*, errW_none, errW_some] <;> rfl), by (with_reducible repeat (first | apply Kd.R_alloc | apply Kd.R_drewN | apply Kd.R_drew)); exact HO_3.out, by repeat (first | (with_reducible first | exact HB.out | apply below_alloc | apply pw_below_drewN | apply below_drew1) | exact HB.out)⟩
def dbus_zzType_NumField.f (k : Nat) (a0 : ByteArray) : Option (Int) := (dbus_zzType_fields.f k a0).bind fun t169 => (some (t169.length : Int))
set_option maxHeartbeats 8000000 in
set_option maxRecDepth 100000 in
theorem dbus_zzType_NumField.calls (k : Nat) (a0 : ByteArray) (r : Int) (w : World) (h : dbus_zzType_NumField.f k a0 = some r) :
    Calls Tryd.prog 37 #[.string a0] w fun e w' => e = .returned (.int .i64 r) ∧ Below w.heap.size w w' := by
  have HB := Aside0.mk (Below.refl w.heap.size w)
  have H : ((dbus_zzType_fields.f k a0).bind fun t169 => (some (t169.length : Int))) = some r := h
  clear h
  replace H := Option.bind_eq_some_iff.mp H
  obtain ⟨t169, A20, H⟩ := H
  replace H : (some (t169.length : Int)) = some r := H
  have A2 := Aside0.mk A20
  clear A20
  obtain rfl := Option.some.inj H
  go_enter Tryd.func37, Tryd.ntmps37
  go_wp2_with (first | ((with_reducible refine gate_callee (f := 56) rfl ?_); refine goesL_ (some 4) rfl rfl Tryd.func56 (by kernel_rfl) rfl #[.string a0] rfl (by (try simp only [List.map_toArray, List.map_cons, List.map_nil]); first | done | rfl | (simp only [List.length_drop, List.length_take]; rfl)) ?_; (with_reducible refine (dbus_zzType_fields.calls k a0 t169 _ A2.out).mono ?_); rintro e w3 ⟨v170, rfl, ho0, hb⟩; refine ⟨_, rfl, ?_⟩; have n0_ := Aside0.mk (Kd.R_lower ho0 (below_size (by repeat (first | (with_reducible first | exact HB.out | apply below_alloc | apply pw_below_drewN | apply below_drew1) | exact HB.out)))); have n1_ := Aside0.mk (below_step (by repeat (first | (with_reducible first | exact HB.out | apply below_alloc | apply pw_below_drewN | apply below_drew1) | exact HB.out)) hb); clear HB; have HO171 := n0_; have HB := n1_; clear n0_ n1_; (try clear hb); (try clear hb2); (try clear hk); (try clear hi); (try clear ho0); obtain ⟨Ao4, co4, eo4⟩ := Kd.R_slice HO171.out; subst eo4))
  go_ret
  exact ⟨by first | rfl | (simp [errW_none, errW_some] <;> rfl) | (simp [*, errW_none, errW_some] <;> rfl), by repeat (first | (with_reducible first | exact HB.out | apply below_alloc | apply pw_below_drewN | apply below_drew1) | exact HB.out)⟩
def dbus_zzType_Field.f (k : Nat) (a0 : ByteArray) (a1 : Int) : Option (ByteArray × ByteArray × ByteArray) := (dbus_zzType_fields.f k a0).bind fun t173 => (if 0 ≤ a1 then (if a1 < (t173.length : Int) then (some (rdOf ByteArray.empty t173 a1, (⟨#[]⟩ : ByteArray), (⟨#[]⟩ : ByteArray))) else (none)) else (none))
set_option maxHeartbeats 8000000 in
set_option maxRecDepth 100000 in
theorem dbus_zzType_Field.calls (k : Nat) (a0 : ByteArray) (a1 : Int) (r1 : ByteArray) (r2 : ByteArray) (r3 : ByteArray) (w : World) (h : dbus_zzType_Field.f k a0 a1 = some (r1, r2, r3)) :
    Calls Tryd.prog 38 #[.string a0, .int .i64 a1] w fun e w' => e = .returned (.agg #[.string r1, .string r2, .string r3]) ∧ Below w.heap.size w w' := by
  have hu72 := Tryd.underlying72
  have HB := Aside0.mk (Below.refl w.heap.size w)
  have H : ((dbus_zzType_fields.f k a0).bind fun t173 => (if 0 ≤ a1 then (if a1 < (t173.length : Int) then (some (rdOf ByteArray.empty t173 a1, (⟨#[]⟩ : ByteArray), (⟨#[]⟩ : ByteArray))) else (none)) else (none))) = some (r1, r2, r3) := h
  clear h
  replace H := Option.bind_eq_some_iff.mp H
  obtain ⟨t173, A30, H⟩ := H
  replace H : (if 0 ≤ a1 then (if a1 < (t173.length : Int) then (some (rdOf ByteArray.empty t173 a1, (⟨#[]⟩ : ByteArray), (⟨#[]⟩ : ByteArray))) else (none)) else (none)) = some (r1, r2, r3) := H
  have A3 := Aside0.mk A30
  clear A30
  by_cases c4 : 0 ≤ a1
  · rw [if_pos c4] at H
    have c4b0 : decide (0 ≤ a1) = true := decide_eq_true c4
    clear c4
    by_cases c5 : a1 < (t173.length : Int)
    · rw [if_pos c5] at H
      have c5b0 : decide (a1 < (t173.length : Int)) = true := decide_eq_true c5
      clear c5
      simp only [Option.some.injEq, Prod.mk.injEq] at H
      obtain ⟨rfl, rfl, rfl⟩ := H
      go_enter Tryd.func38, Tryd.ntmps38
      go_wp2_with (first | ((with_reducible refine gate_dst (N := 4) rfl ?_); refine box_event ?hg (N := 4) ?hd (cs := #[.string (⟨#[]⟩ : ByteArray), .string (⟨#[]⟩ : ByteArray), .string (⟨#[]⟩ : ByteArray)]) (t := 72) ?hr ?_; (case hd => rfl); (case hg => rfl); (case hr => first | (go_simp; done) | (go_simp; rfl)); intro gb172 hg w6 hbox hb; have n0_ := Aside0.mk (below_step (by repeat (first | (with_reducible first | exact HB.out | apply below_alloc | apply pw_below_drewN | apply below_drew1) | exact HB.out)) hb); have n1_ := Aside0.mk (hbox); have n2_ := Aside0.mk ((by rw [hg]; exact (below_size (by repeat (first | (with_reducible first | exact HB.out | apply below_alloc | apply pw_below_drewN | apply below_drew1) | exact HB.out))) : w.heap.size ≤ gb172)); have n3_ := Aside0.mk ((by rw [hg]; exact (below_size (by repeat (first | (with_reducible first | exact HB.out | apply below_alloc | apply pw_below_drewN | apply below_drew1) | exact HB.out))) : w.heap.size ≤ gb172)); clear HB; have HB := n0_; have BK172 := n1_; have GW172 := n2_; have GE172 := n3_; clear n0_ n1_ n2_ n3_; clear hb hbox hg) | ((with_reducible refine gate_callee (f := 56) rfl ?_); refine goesL_ (some 6) rfl rfl Tryd.func56 (by kernel_rfl) rfl #[.string a0] rfl (by (try simp only [List.map_toArray, List.map_cons, List.map_nil]); first | done | rfl | (simp only [List.length_drop, List.length_take]; rfl)) ?_; (with_reducible refine (dbus_zzType_fields.calls k a0 t173 _ A3.out).mono ?_); rintro e w7 ⟨v174, rfl, ho0, hb⟩; refine ⟨_, rfl, ?_⟩; have n0_ := Aside0.mk (Kd.R_lower ho0 (below_size (by repeat (first | (with_reducible first | exact HB.out | apply below_alloc | apply pw_below_drewN | apply below_drew1 | refine below_set ?_ GE172.out) | exact HB.out)))); have n1_ := Aside0.mk (blk_below (g := gb172) (o := .cells #[.string (⟨#[]⟩ : ByteArray), .string (⟨#[]⟩ : ByteArray), .string (⟨#[]⟩ : ByteArray)] 72 (0, 0)) (by (with_reducible repeat (first | refine blk_drewN ?_ _ | refine blk_drew ?_ | refine blk_alloc ?_ _)); exact BK172.out) hb); have n2_ := Aside0.mk (below_step (by repeat (first | (with_reducible first | exact HB.out | apply below_alloc | apply pw_below_drewN | apply below_drew1 | refine below_set ?_ GE172.out) | exact HB.out)) hb); clear BK172; clear HB; have HO175 := n0_; have BK172 := n1_; have HB := n2_; clear n0_ n1_ n2_; (try clear hb); (try clear hb2); (try clear hk); (try clear hi); (try clear ho0); obtain ⟨Ao8, co8, eo8⟩ := Kd.R_slice HO175.out; subst eo8; have p176 : 0 ≤ (a1 : Int) := of_decide_eq_true (by first | (with_reducible assumption) | assumption); have q176 : a1 < (t173.length : Int) := of_decide_eq_true (by first | (with_reducible assumption) | assumption); obtain ⟨ad176, e176, hx176_0⟩ := Kd.at_string (Kd.R_reads' HO175.out).2.2 a1 p176 q176; cases e176; replace p176 := eq_true p176; replace q176 := eq_true q176; have hcz9_0 : w7.cell? ⟨gb172, 0, none⟩ = some (.string (⟨#[]⟩ : ByteArray)) := (blk_cell BK172.out 0).trans rfl; have hcz9_1 : w7.cell? ⟨gb172, 1, none⟩ = some (.string (⟨#[]⟩ : ByteArray)) := (blk_cell BK172.out 1).trans rfl; have hcz9_2 : w7.cell? ⟨gb172, 2, none⟩ = some (.string (⟨#[]⟩ : ByteArray)) := (blk_cell BK172.out 2).trans rfl; have hfz9_0 := blk_frozen BK172.out 0; have hfz9_1 := blk_frozen BK172.out 1; have hfz9_2 := blk_frozen BK172.out 2))
      refine bodyPost_ret (results_cell_row rfl _ _ gb172 72 #[.string (rdOf ByteArray.empty t173 a1), .string (⟨#[]⟩ : ByteArray), .string (⟨#[]⟩ : ByteArray)] (0, 0) _ rfl (by (with_reducible repeat (first | refine blk_drewN ?_ _ | refine blk_drew ?_ | refine blk_alloc ?_ _)); refine blk_put (cs := #[.string (rdOf ByteArray.empty t173 a1), .string (⟨#[]⟩ : ByteArray), .string (⟨#[]⟩ : ByteArray)]) ?_ 2 _ rfl; (with_reducible repeat (first | refine blk_drewN ?_ _ | refine blk_drew ?_ | refine blk_alloc ?_ _)); refine blk_put (cs := #[.string (rdOf ByteArray.empty t173 a1), .string (⟨#[]⟩ : ByteArray), .string (⟨#[]⟩ : ByteArray)]) ?_ 1 _ rfl; (with_reducible repeat (first | refine blk_drewN ?_ _ | refine blk_drew ?_ | refine blk_alloc ?_ _)); refine blk_put (cs := #[.string (⟨#[]⟩ : ByteArray), .string (⟨#[]⟩ : ByteArray), .string (⟨#[]⟩ : ByteArray)]) ?_ 0 _ rfl; (with_reducible repeat (first | refine blk_drewN ?_ _ | refine blk_drew ?_ | refine blk_alloc ?_ _)); exact BK172.out) Tryd.underlying72 rfl (by kernel_rfl)) rfl ?_
      exact ⟨by first | rfl | (simp [errW_none, errW_some] <;> rfl) | (simp [*, errW_none, errW_some] <;> rfl), by repeat (first | (with_reducible first | exact HB.out | apply below_alloc | apply pw_below_drewN | apply below_drew1 | refine below_set ?_ GE172.out) | exact HB.out)⟩
    · rw [if_neg c5] at H
      exact absurd H (by simp)
  · rw [if_neg c4] at H
    exact absurd H (by simp)
def dbus_zzTag_Get.f (a0 : ByteArray) (a1 : ByteArray) : Option (ByteArray) := some (⟨#[]⟩ : ByteArray)
set_option maxHeartbeats 8000000 in
set_option maxRecDepth 100000 in
theorem dbus_zzTag_Get.calls (a0 : ByteArray) (a1 : ByteArray) (r : ByteArray) (w : World) (h : dbus_zzTag_Get.f a0 a1 = some r) :
    Calls Tryd.prog 39 #[.string a0, .string a1] w fun e w' => e = .returned (.string r) ∧ Drawn0 w w' := by
  have H : (some (⟨#[]⟩ : ByteArray)) = some r := h
  clear h
  obtain rfl := Option.some.inj H
  go_enter Tryd.func39, Tryd.ntmps39
  go_wp2
  go_ret
  exact ⟨by first | rfl | (simp; done) | (simp [*]; done), by repeat (first | exact Drawn0.refl _ | apply Drawn0.step)⟩
def dbus_isKeyType.f (k : Nat) (a0 : ByteArray) : Option (Bool) := (dbus_zzType_Kind.f k a0).bind fun t179 => (if t179 = 7 then (some true) else (if t179 = 8 then (some true) else (if t179 = 9 then (some true) else (if t179 = 10 then (some true) else (if t179 = 3 then (some true) else (if t179 = 4 then (some true) else (if t179 = 5 then (some true) else (if t179 = 11 then (some true) else (if t179 = 17 then (some true) else (if t179 = 6 then (some true) else (if t179 = 2 then (some true) else (some false))))))))))))
set_option maxHeartbeats 8000000 in
set_option maxRecDepth 100000 in
theorem dbus_isKeyType.calls (k : Nat) (a0 : ByteArray) (r : Bool) (w : World) (h : dbus_isKeyType.f k a0 = some r) :
    Calls Tryd.prog 42 #[.string a0] w fun e w' => e = .returned (.bool r) ∧ Drawn0 w w' := by
  have H : ((dbus_zzType_Kind.f k a0).bind fun t179 => (if t179 = 7 then (some true) else (if t179 = 8 then (some true) else (if t179 = 9 then (some true) else (if t179 = 10 then (some true) else (if t179 = 3 then (some true) else (if t179 = 4 then (some true) else (if t179 = 5 then (some true) else (if t179 = 11 then (some true) else (if t179 = 17 then (some true) else (if t179 = 6 then (some true) else (if t179 = 2 then (some true) else (some false))))))))))))) = some r := h
  clear h
  replace H := Option.bind_eq_some_iff.mp H
  obtain ⟨t179, A20, H⟩ := H
  replace H : (if t179 = 7 then (some true) else (if t179 = 8 then (some true) else (if t179 = 9 then (some true) else (if t179 = 10 then (some true) else (if t179 = 3 then (some true) else (if t179 = 4 then (some true) else (if t179 = 5 then (some true) else (if t179 = 11 then (some true) else (if t179 = 17 then (some true) else (if t179 = 6 then (some true) else (if t179 = 2 then (some true) else (some false)))))))))))) = some r := H
  have A2 := Aside0.mk A20
  clear A20
  by_cases c3 : t179 = 7
  · rw [if_pos c3] at H
    have c3b0 : (t179 == 7) = true := beq_iff_eq.mpr c3
    have c3b1 : (t179 != 7) = false := bne_eq_false_iff_eq.mpr c3
    clear c3
    obtain rfl := Option.some.inj H
    go_enter Tryd.func42, Tryd.ntmps42
    go_wp2_with (first | ((with_reducible refine gate_callee (f := 35) rfl ?_); refine goesL_ (some 4) rfl rfl Tryd.func35 (by kernel_rfl) rfl #[.string a0] rfl (by (try simp only [List.map_toArray, List.map_cons, List.map_nil]); first | done | rfl | (simp only [List.length_drop, List.length_take]; rfl)) ?_; (with_reducible refine (dbus_zzType_Kind.calls k a0 t179 _ A2.out).mono ?_); rintro e w' ⟨rfl, ⟨nd, rfl⟩⟩; refine ⟨_, rfl, ?_⟩))
    go_ret
    exact ⟨by first | rfl | (simp; done) | (simp [*]; done), by repeat (first | exact Drawn0.refl _ | apply Drawn0.step)⟩
  · rw [if_neg c3] at H
    have c3b0 : (t179 == 7) = false := beq_eq_false_iff_ne.mpr c3
    have c3b1 : (t179 != 7) = true := bne_iff_ne.mpr c3
    by_cases c4 : t179 = 8
    · rw [if_pos c4] at H
      have c4b0 : (t179 == 8) = true := beq_iff_eq.mpr c4
      have c4b1 : (t179 != 8) = false := bne_eq_false_iff_eq.mpr c4
      clear c4
      obtain rfl := Option.some.inj H
      go_enter Tryd.func42, Tryd.ntmps42
      go_wp2_with (first | ((with_reducible refine gate_callee (f := 35) rfl ?_); refine goesL_ (some 4) rfl rfl Tryd.func35 (by kernel_rfl) rfl #[.string a0] rfl (by (try simp only [List.map_toArray, List.map_cons, List.map_nil]); first | done | rfl | (simp only [List.length_drop, List.length_take]; rfl)) ?_; (with_reducible refine (dbus_zzType_Kind.calls k a0 t179 _ A2.out).mono ?_); rintro e w' ⟨rfl, ⟨nd, rfl⟩⟩; refine ⟨_, rfl, ?_⟩))
      go_ret
      exact ⟨by first | rfl | (simp; done) | (simp [*]; done), by repeat (first | exact Drawn0.refl _ | apply Drawn0.step)⟩
    · rw [if_neg c4] at H
      have c4b0 : (t179 == 8) = false := beq_eq_false_iff_ne.mpr c4
      have c4b1 : (t179 != 8) = true := bne_iff_ne.mpr c4
      by_cases c5 : t179 = 9
      · rw [if_pos c5] at H
        have c5b0 : (t179 == 9) = true := beq_iff_eq.mpr c5
        have c5b1 : (t179 != 9) = false := bne_eq_false_iff_eq.mpr c5
        clear c5
        obtain rfl := Option.some.inj H
        go_enter Tryd.func42, Tryd.ntmps42
        go_wp2_with (first | ((with_reducible refine gate_callee (f := 35) rfl ?_); refine goesL_ (some 4) rfl rfl Tryd.func35 (by kernel_rfl) rfl #[.string a0] rfl (by (try simp only [List.map_toArray, List.map_cons, List.map_nil]); first | done | rfl | (simp only [List.length_drop, List.length_take]; rfl)) ?_; (with_reducible refine (dbus_zzType_Kind.calls k a0 t179 _ A2.out).mono ?_); rintro e w' ⟨rfl, ⟨nd, rfl⟩⟩; refine ⟨_, rfl, ?_⟩))
        go_ret
        exact ⟨by first | rfl | (simp; done) | (simp [*]; done), by repeat (first | exact Drawn0.refl _ | apply Drawn0.step)⟩
      · rw [if_neg c5] at H
        have c5b0 : (t179 == 9) = false := beq_eq_false_iff_ne.mpr c5
        have c5b1 : (t179 != 9) = true := bne_iff_ne.mpr c5
        by_cases c6 : t179 = 10
        · rw [if_pos c6] at H
          have c6b0 : (t179 == 10) = true := beq_iff_eq.mpr c6
          have c6b1 : (t179 != 10) = false := bne_eq_false_iff_eq.mpr c6
          clear c6
          obtain rfl := Option.some.inj H
          go_enter Tryd.func42, Tryd.ntmps42
          go_wp2_with (first | ((with_reducible refine gate_callee (f := 35) rfl ?_); refine goesL_ (some 4) rfl rfl Tryd.func35 (by kernel_rfl) rfl #[.string a0] rfl (by (try simp only [List.map_toArray, List.map_cons, List.map_nil]); first | done | rfl | (simp only [List.length_drop, List.length_take]; rfl)) ?_; (with_reducible refine (dbus_zzType_Kind.calls k a0 t179 _ A2.out).mono ?_); rintro e w' ⟨rfl, ⟨nd, rfl⟩⟩; refine ⟨_, rfl, ?_⟩))
          go_ret
          exact ⟨by first | rfl | (simp; done) | (simp [*]; done), by repeat (first | exact Drawn0.refl _ | apply Drawn0.step)⟩
        · rw [if_neg c6] at H
          have c6b0 : (t179 == 10) = false := beq_eq_false_iff_ne.mpr c6
          have c6b1 : (t179 != 10) = true := bne_iff_ne.mpr c6
          by_cases c7 : t179 = 3
          · rw [if_pos c7] at H
            have c7b0 : (t179 == 3) = true := beq_iff_eq.mpr c7
            have c7b1 : (t179 != 3) = false := bne_eq_false_iff_eq.mpr c7
            clear c7
            obtain rfl := Option.some.inj H
            go_enter Tryd.func42, Tryd.ntmps42
            go_wp2_with (first | ((with_reducible refine gate_callee (f := 35) rfl ?_); refine goesL_ (some 4) rfl rfl Tryd.func35 (by kernel_rfl) rfl #[.string a0] rfl (by (try simp only [List.map_toArray, List.map_cons, List.map_nil]); first | done | rfl | (simp only [List.length_drop, List.length_take]; rfl)) ?_; (with_reducible refine (dbus_zzType_Kind.calls k a0 t179 _ A2.out).mono ?_); rintro e w' ⟨rfl, ⟨nd, rfl⟩⟩; refine ⟨_, rfl, ?_⟩))
            go_ret
            exact ⟨by first | rfl | (simp; done) | (simp [*]; done), by repeat (first | exact Drawn0.refl _ | apply Drawn0.step)⟩
          · rw [if_neg c7] at H
            have c7b0 : (t179 == 3) = false := beq_eq_false_iff_ne.mpr c7
            have c7b1 : (t179 != 3) = true := bne_iff_ne.mpr c7
            by_cases c8 : t179 = 4
            · rw [if_pos c8] at H
              have c8b0 : (t179 == 4) = true := beq_iff_eq.mpr c8
              have c8b1 : (t179 != 4) = false := bne_eq_false_iff_eq.mpr c8
              clear c8
              obtain rfl := Option.some.inj H
              go_enter Tryd.func42, Tryd.ntmps42
              go_wp2_with (first | ((with_reducible refine gate_callee (f := 35) rfl ?_); refine goesL_ (some 4) rfl rfl Tryd.func35 (by kernel_rfl) rfl #[.string a0] rfl (by (try simp only [List.map_toArray, List.map_cons, List.map_nil]); first | done | rfl | (simp only [List.length_drop, List.length_take]; rfl)) ?_; (with_reducible refine (dbus_zzType_Kind.calls k a0 t179 _ A2.out).mono ?_); rintro e w' ⟨rfl, ⟨nd, rfl⟩⟩; refine ⟨_, rfl, ?_⟩))
              go_ret
              exact ⟨by first | rfl | (simp; done) | (simp [*]; done), by repeat (first | exact Drawn0.refl _ | apply Drawn0.step)⟩
            · rw [if_neg c8] at H
              have c8b0 : (t179 == 4) = false := beq_eq_false_iff_ne.mpr c8
              have c8b1 : (t179 != 4) = true := bne_iff_ne.mpr c8
              by_cases c9 : t179 = 5
              · rw [if_pos c9] at H
                have c9b0 : (t179 == 5) = true := beq_iff_eq.mpr c9
                have c9b1 : (t179 != 5) = false := bne_eq_false_iff_eq.mpr c9
                clear c9
                obtain rfl := Option.some.inj H
                go_enter Tryd.func42, Tryd.ntmps42
                go_wp2_with (first | ((with_reducible refine gate_callee (f := 35) rfl ?_); refine goesL_ (some 4) rfl rfl Tryd.func35 (by kernel_rfl) rfl #[.string a0] rfl (by (try simp only [List.map_toArray, List.map_cons, List.map_nil]); first | done | rfl | (simp only [List.length_drop, List.length_take]; rfl)) ?_; (with_reducible refine (dbus_zzType_Kind.calls k a0 t179 _ A2.out).mono ?_); rintro e w' ⟨rfl, ⟨nd, rfl⟩⟩; refine ⟨_, rfl, ?_⟩))
                go_ret
                exact ⟨by first | rfl | (simp; done) | (simp [*]; done), by repeat (first | exact Drawn0.refl _ | apply Drawn0.step)⟩
              · rw [if_neg c9] at H
                have c9b0 : (t179 == 5) = false := beq_eq_false_iff_ne.mpr c9
                have c9b1 : (t179 != 5) = true := bne_iff_ne.mpr c9
                by_cases c10 : t179 = 11
                · rw [if_pos c10] at H
                  have c10b0 : (t179 == 11) = true := beq_iff_eq.mpr c10
                  have c10b1 : (t179 != 11) = false := bne_eq_false_iff_eq.mpr c10
                  clear c10
                  obtain rfl := Option.some.inj H
                  go_enter Tryd.func42, Tryd.ntmps42
                  go_wp2_with (first | ((with_reducible refine gate_callee (f := 35) rfl ?_); refine goesL_ (some 4) rfl rfl Tryd.func35 (by kernel_rfl) rfl #[.string a0] rfl (by (try simp only [List.map_toArray, List.map_cons, List.map_nil]); first | done | rfl | (simp only [List.length_drop, List.length_take]; rfl)) ?_; (with_reducible refine (dbus_zzType_Kind.calls k a0 t179 _ A2.out).mono ?_); rintro e w' ⟨rfl, ⟨nd, rfl⟩⟩; refine ⟨_, rfl, ?_⟩))
                  go_ret
                  exact ⟨by first | rfl | (simp; done) | (simp [*]; done), by repeat (first | exact Drawn0.refl _ | apply Drawn0.step)⟩
                · rw [if_neg c10] at H
                  have c10b0 : (t179 == 11) = false := beq_eq_false_iff_ne.mpr c10
                  have c10b1 : (t179 != 11) = true := bne_iff_ne.mpr c10
                  by_cases c11 : t179 = 17
                  · rw [if_pos c11] at H
                    have c11b0 : (t179 == 17) = true := beq_iff_eq.mpr c11
                    have c11b1 : (t179 != 17) = false := bne_eq_false_iff_eq.mpr c11
                    clear c11
                    obtain rfl := Option.some.inj H
                    go_enter Tryd.func42, Tryd.ntmps42
                    go_wp2_with (first | ((with_reducible refine gate_callee (f := 35) rfl ?_); refine goesL_ (some 4) rfl rfl Tryd.func35 (by kernel_rfl) rfl #[.string a0] rfl (by (try simp only [List.map_toArray, List.map_cons, List.map_nil]); first | done | rfl | (simp only [List.length_drop, List.length_take]; rfl)) ?_; (with_reducible refine (dbus_zzType_Kind.calls k a0 t179 _ A2.out).mono ?_); rintro e w' ⟨rfl, ⟨nd, rfl⟩⟩; refine ⟨_, rfl, ?_⟩))
                    go_ret
                    exact ⟨by first | rfl | (simp; done) | (simp [*]; done), by repeat (first | exact Drawn0.refl _ | apply Drawn0.step)⟩
                  · rw [if_neg c11] at H
                    have c11b0 : (t179 == 17) = false := beq_eq_false_iff_ne.mpr c11
                    have c11b1 : (t179 != 17) = true := bne_iff_ne.mpr c11
                    by_cases c12 : t179 = 6
                    · rw [if_pos c12] at H
                      have c12b0 : (t179 == 6) = true := beq_iff_eq.mpr c12
                      have c12b1 : (t179 != 6) = false := bne_eq_false_iff_eq.mpr c12
                      clear c12
                      obtain rfl := Option.some.inj H
                      go_enter Tryd.func42, Tryd.ntmps42
                      go_wp2_with (first | ((with_reducible refine gate_callee (f := 35) rfl ?_); refine goesL_ (some 4) rfl rfl Tryd.func35 (by kernel_rfl) rfl #[.string a0] rfl (by (try simp only [List.map_toArray, List.map_cons, List.map_nil]); first | done | rfl | (simp only [List.length_drop, List.length_take]; rfl)) ?_; (with_reducible refine (dbus_zzType_Kind.calls k a0 t179 _ A2.out).mono ?_); rintro e w' ⟨rfl, ⟨nd, rfl⟩⟩; refine ⟨_, rfl, ?_⟩))
                      go_ret
                      exact ⟨by first | rfl | (simp; done) | (simp [*]; done), by repeat (first | exact Drawn0.refl _ | apply Drawn0.step)⟩
                    · rw [if_neg c12] at H
                      have c12b0 : (t179 == 6) = false := beq_eq_false_iff_ne.mpr c12
                      have c12b1 : (t179 != 6) = true := bne_iff_ne.mpr c12
                      by_cases c13 : t179 = 2
                      · rw [if_pos c13] at H
                        have c13b0 : (t179 == 2) = true := beq_iff_eq.mpr c13
                        have c13b1 : (t179 != 2) = false := bne_eq_false_iff_eq.mpr c13
                        clear c13
                        obtain rfl := Option.some.inj H
                        go_enter Tryd.func42, Tryd.ntmps42
                        go_wp2_with (first | ((with_reducible refine gate_callee (f := 35) rfl ?_); refine goesL_ (some 4) rfl rfl Tryd.func35 (by kernel_rfl) rfl #[.string a0] rfl (by (try simp only [List.map_toArray, List.map_cons, List.map_nil]); first | done | rfl | (simp only [List.length_drop, List.length_take]; rfl)) ?_; (with_reducible refine (dbus_zzType_Kind.calls k a0 t179 _ A2.out).mono ?_); rintro e w' ⟨rfl, ⟨nd, rfl⟩⟩; refine ⟨_, rfl, ?_⟩))
                        go_ret
                        exact ⟨by first | rfl | (simp; done) | (simp [*]; done), by repeat (first | exact Drawn0.refl _ | apply Drawn0.step)⟩
                      · rw [if_neg c13] at H
                        have c13b0 : (t179 == 2) = false := beq_eq_false_iff_ne.mpr c13
                        have c13b1 : (t179 != 2) = true := bne_iff_ne.mpr c13
                        obtain rfl := Option.some.inj H
                        go_enter Tryd.func42, Tryd.ntmps42
                        go_wp2_with (first | ((with_reducible refine gate_callee (f := 35) rfl ?_); refine goesL_ (some 4) rfl rfl Tryd.func35 (by kernel_rfl) rfl #[.string a0] rfl (by (try simp only [List.map_toArray, List.map_cons, List.map_nil]); first | done | rfl | (simp only [List.length_drop, List.length_take]; rfl)) ?_; (with_reducible refine (dbus_zzType_Kind.calls k a0 t179 _ A2.out).mono ?_); rintro e w' ⟨rfl, ⟨nd, rfl⟩⟩; refine ⟨_, rfl, ?_⟩))
                        go_ret
                        exact ⟨by first | rfl | (simp; done) | (simp [*]; done), by repeat (first | exact Drawn0.refl _ | apply Drawn0.step)⟩
def dbus_zzType_Key.f (a0 : ByteArray) : Option (ByteArray) := if 1 ≤ 2 then (if 2 ≤ (a0.size : Int) then (some (a0.extract 1 2)) else (none)) else (none)
set_option maxHeartbeats 8000000 in
set_option maxRecDepth 100000 in
theorem dbus_zzType_Key.calls (a0 : ByteArray) (r : ByteArray) (w : World) (h : dbus_zzType_Key.f a0 = some r) :
    Calls Tryd.prog 43 #[.string a0] w fun e w' => e = .returned (.string r) ∧ Drawn0 w w' := by
  have H : (if 1 ≤ 2 then (if 2 ≤ (a0.size : Int) then (some (a0.extract 1 2)) else (none)) else (none)) = some r := h
  clear h
  by_cases c2 : 1 ≤ 2
  · rw [if_pos c2] at H
    have c2b0 := eq_true c2
    have c2b1 : decide (1 ≤ 2) = true := decide_eq_true c2
    clear c2
    by_cases c3 : 2 ≤ (a0.size : Int)
    · rw [if_pos c3] at H
      have c3b0 := eq_true c3
      have c3b1 : decide (2 ≤ (a0.size : Int)) = true := decide_eq_true c3
      clear c3
      obtain rfl := Option.some.inj H
      go_enter Tryd.func43, Tryd.ntmps43
      go_wp2
      go_ret
      exact ⟨by first | rfl | (simp; done) | (simp [*]; done), by repeat (first | exact Drawn0.refl _ | apply Drawn0.step)⟩
    · rw [if_neg c3] at H
      exact absurd H (by simp)
  · rw [if_neg c2] at H
    exact absurd H (by simp)
def dbus_zzSliceOf.f (a0 : ByteArray) : Option (ByteArray) := if 1 + a0.size ≤ 9223372036854775807 then (some ((⟨#[91]⟩ : ByteArray) ++ a0)) else (none)
set_option maxHeartbeats 8000000 in
set_option maxRecDepth 100000 in
theorem dbus_zzSliceOf.calls (a0 : ByteArray) (r : ByteArray) (w : World) (h : dbus_zzSliceOf.f a0 = some r) :
    Calls Tryd.prog 45 #[.string a0] w fun e w' => e = .returned (.string r) ∧ Drawn0 w w' := by
  have H : (if 1 + a0.size ≤ 9223372036854775807 then (some ((⟨#[91]⟩ : ByteArray) ++ a0)) else (none)) = some r := h
  clear h
  by_cases c2 : 1 + a0.size ≤ 9223372036854775807
  · rw [if_pos c2] at H
    have c2b0 := eq_true c2
    have c2b1 : decide (1 + a0.size ≤ 9223372036854775807) = true := decide_eq_true c2
    try have c2b2 : (9223372036854775807 < 1 + a0.size) = False := eq_false (Nat.not_lt.2 c2)
    obtain rfl := Option.some.inj H
    go_enter Tryd.func45, Tryd.ntmps45
    go_wp2
    go_ret
    exact ⟨by first | rfl | (simp; done) | (simp [*]; done), by repeat (first | exact Drawn0.refl _ | apply Drawn0.step)⟩
  · rw [if_neg c2] at H
    exact absurd H (by simp)
def dbus_zzMapOf.f (a0 : ByteArray) (a1 : ByteArray) : Option (ByteArray) := if 1 + a0.size ≤ 9223372036854775807 then (if ((⟨#[123]⟩ : ByteArray) ++ a0).size + a1.size ≤ 9223372036854775807 then (some (((⟨#[123]⟩ : ByteArray) ++ a0) ++ a1)) else (none)) else (none)
set_option maxHeartbeats 8000000 in
set_option maxRecDepth 100000 in
theorem dbus_zzMapOf.calls (a0 : ByteArray) (a1 : ByteArray) (r : ByteArray) (w : World) (h : dbus_zzMapOf.f a0 a1 = some r) :
    Calls Tryd.prog 46 #[.string a0, .string a1] w fun e w' => e = .returned (.string r) ∧ Drawn0 w w' := by
  have H : (if 1 + a0.size ≤ 9223372036854775807 then (if ((⟨#[123]⟩ : ByteArray) ++ a0).size + a1.size ≤ 9223372036854775807 then (some (((⟨#[123]⟩ : ByteArray) ++ a0) ++ a1)) else (none)) else (none)) = some r := h
  clear h
  by_cases c3 : 1 + a0.size ≤ 9223372036854775807
  · rw [if_pos c3] at H
    have c3b0 := eq_true c3
    have c3b1 : decide (1 + a0.size ≤ 9223372036854775807) = true := decide_eq_true c3
    try have c3b2 : (9223372036854775807 < 1 + a0.size) = False := eq_false (Nat.not_lt.2 c3)
    by_cases c4 : ((⟨#[123]⟩ : ByteArray) ++ a0).size + a1.size ≤ 9223372036854775807
    · rw [if_pos c4] at H
      have c4b0 := eq_true c4
      have c4b1 : decide (((⟨#[123]⟩ : ByteArray) ++ a0).size + a1.size ≤ 9223372036854775807) = true := decide_eq_true c4
      try have c4b2 : (9223372036854775807 < ((⟨#[123]⟩ : ByteArray) ++ a0).size + a1.size) = False := eq_false (Nat.not_lt.2 c4)
      obtain rfl := Option.some.inj H
      go_enter Tryd.func46, Tryd.ntmps46
      go_wp2
      go_ret
      exact ⟨by first | rfl | (simp; done) | (simp [*]; done), by repeat (first | exact Drawn0.refl _ | apply Drawn0.step)⟩
    · rw [if_neg c4] at H
      exact absurd H (by simp)
  · rw [if_neg c3] at H
    exact absurd H (by simp)
def dbus_zzSigToType.f (a0 : Int) : Option (ByteArray × Bool) := if a0 = 121 then (some ((⟨#[121]⟩ : ByteArray), true)) else (if a0 = 98 then (some ((⟨#[98]⟩ : ByteArray), true)) else (if a0 = 110 then (some ((⟨#[110]⟩ : ByteArray), true)) else (if a0 = 113 then (some ((⟨#[113]⟩ : ByteArray), true)) else (if a0 = 105 then (some ((⟨#[105]⟩ : ByteArray), true)) else (if a0 = 117 then (some ((⟨#[117]⟩ : ByteArray), true)) else (if a0 = 120 then (some ((⟨#[120]⟩ : ByteArray), true)) else (if a0 = 116 then (some ((⟨#[116]⟩ : ByteArray), true)) else (if a0 = 100 then (some ((⟨#[100]⟩ : ByteArray), true)) else (if a0 = 115 then (some ((⟨#[115]⟩ : ByteArray), true)) else (if a0 = 103 then (some ((⟨#[103]⟩ : ByteArray), true)) else (if a0 = 111 then (some ((⟨#[111]⟩ : ByteArray), true)) else (if a0 = 118 then (some ((⟨#[118]⟩ : ByteArray), true)) else (if a0 = 104 then (some ((⟨#[104]⟩ : ByteArray), true)) else (some ((⟨#[]⟩ : ByteArray), false)))))))))))))))
set_option maxHeartbeats 8000000 in
set_option maxRecDepth 100000 in
theorem dbus_zzSigToType.calls (a0 : Int) (r1 : ByteArray) (r2 : Bool) (w : World) (h : dbus_zzSigToType.f a0 = some (r1, r2)) :
    Calls Tryd.prog 59 #[.int .u8 a0] w fun e w' => e = .returned (.tuple #[.string r1, .bool r2]) ∧ Drawn0 w w' := by
  have H : (if a0 = 121 then (some ((⟨#[121]⟩ : ByteArray), true)) else (if a0 = 98 then (some ((⟨#[98]⟩ : ByteArray), true)) else (if a0 = 110 then (some ((⟨#[110]⟩ : ByteArray), true)) else (if a0 = 113 then (some ((⟨#[113]⟩ : ByteArray), true)) else (if a0 = 105 then (some ((⟨#[105]⟩ : ByteArray), true)) else (if a0 = 117 then (some ((⟨#[117]⟩ : ByteArray), true)) else (if a0 = 120 then (some ((⟨#[120]⟩ : ByteArray), true)) else (if a0 = 116 then (some ((⟨#[116]⟩ : ByteArray), true)) else (if a0 = 100 then (some ((⟨#[100]⟩ : ByteArray), true)) else (if a0 = 115 then (some ((⟨#[115]⟩ : ByteArray), true)) else (if a0 = 103 then (some ((⟨#[103]⟩ : ByteArray), true)) else (if a0 = 111 then (some ((⟨#[111]⟩ : ByteArray), true)) else (if a0 = 118 then (some ((⟨#[118]⟩ : ByteArray), true)) else (if a0 = 104 then (some ((⟨#[104]⟩ : ByteArray), true)) else (some ((⟨#[]⟩ : ByteArray), false)))))))))))))))) = some (r1, r2) := h
  clear h
  by_cases c2 : a0 = 121
  · rw [if_pos c2] at H
    have c2b0 : (a0 == 121) = true := beq_iff_eq.mpr c2
    have c2b1 : (a0 != 121) = false := bne_eq_false_iff_eq.mpr c2
    clear c2
    simp only [Option.some.injEq, Prod.mk.injEq] at H
    obtain ⟨rfl, rfl⟩ := H
    go_enter Tryd.func59, Tryd.ntmps59
    go_wp2
    go_ret2
    exact ⟨by first | rfl | (simp; done) | (simp [*]; done), by repeat (first | exact Drawn0.refl _ | apply Drawn0.step)⟩
  · rw [if_neg c2] at H
    have c2b0 : (a0 == 121) = false := beq_eq_false_iff_ne.mpr c2
    have c2b1 : (a0 != 121) = true := bne_iff_ne.mpr c2
    by_cases c3 : a0 = 98
    · rw [if_pos c3] at H
      have c3b0 : (a0 == 98) = true := beq_iff_eq.mpr c3
      have c3b1 : (a0 != 98) = false := bne_eq_false_iff_eq.mpr c3
      clear c3
      simp only [Option.some.injEq, Prod.mk.injEq] at H
      obtain ⟨rfl, rfl⟩ := H
      go_enter Tryd.func59, Tryd.ntmps59
      go_wp2
      go_ret2
      exact ⟨by first | rfl | (simp; done) | (simp [*]; done), by repeat (first | exact Drawn0.refl _ | apply Drawn0.step)⟩
    · rw [if_neg c3] at H
      have c3b0 : (a0 == 98) = false := beq_eq_false_iff_ne.mpr c3
      have c3b1 : (a0 != 98) = true := bne_iff_ne.mpr c3
      by_cases c4 : a0 = 110
      · rw [if_pos c4] at H
        have c4b0 : (a0 == 110) = true := beq_iff_eq.mpr c4
        have c4b1 : (a0 != 110) = false := bne_eq_false_iff_eq.mpr c4
        clear c4
        simp only [Option.some.injEq, Prod.mk.injEq] at H
        obtain ⟨rfl, rfl⟩ := H
        go_enter Tryd.func59, Tryd.ntmps59
        go_wp2
        go_ret2
        exact ⟨by first | rfl | (simp; done) | (simp [*]; done), by repeat (first | exact Drawn0.refl _ | apply Drawn0.step)⟩
      · rw [if_neg c4] at H
        have c4b0 : (a0 == 110) = false := beq_eq_false_iff_ne.mpr c4
        have c4b1 : (a0 != 110) = true := bne_iff_ne.mpr c4
        by_cases c5 : a0 = 113
        · rw [if_pos c5] at H
          have c5b0 : (a0 == 113) = true := beq_iff_eq.mpr c5
          have c5b1 : (a0 != 113) = false := bne_eq_false_iff_eq.mpr c5
          clear c5
          simp only [Option.some.injEq, Prod.mk.injEq] at H
          obtain ⟨rfl, rfl⟩ := H
          go_enter Tryd.func59, Tryd.ntmps59
          go_wp2
          go_ret2
          exact ⟨by first | rfl | (simp; done) | (simp [*]; done), by repeat (first | exact Drawn0.refl _ | apply Drawn0.step)⟩
        · rw [if_neg c5] at H
          have c5b0 : (a0 == 113) = false := beq_eq_false_iff_ne.mpr c5
          have c5b1 : (a0 != 113) = true := bne_iff_ne.mpr c5
          by_cases c6 : a0 = 105
          · rw [if_pos c6] at H
            have c6b0 : (a0 == 105) = true := beq_iff_eq.mpr c6
            have c6b1 : (a0 != 105) = false := bne_eq_false_iff_eq.mpr c6
            clear c6
            simp only [Option.some.injEq, Prod.mk.injEq] at H
            obtain ⟨rfl, rfl⟩ := H
            go_enter Tryd.func59, Tryd.ntmps59
            go_wp2
            go_ret2
            exact ⟨by first | rfl | (simp; done) | (simp [*]; done), by repeat (first | exact Drawn0.refl _ | apply Drawn0.step)⟩
          · rw [if_neg c6] at H
            have c6b0 : (a0 == 105) = false := beq_eq_false_iff_ne.mpr c6
            have c6b1 : (a0 != 105) = true := bne_iff_ne.mpr c6
            by_cases c7 : a0 = 117
            · rw [if_pos c7] at H
              have c7b0 : (a0 == 117) = true := beq_iff_eq.mpr c7
              have c7b1 : (a0 != 117) = false := bne_eq_false_iff_eq.mpr c7
              clear c7
              simp only [Option.some.injEq, Prod.mk.injEq] at H
              obtain ⟨rfl, rfl⟩ := H
              go_enter Tryd.func59, Tryd.ntmps59
              go_wp2
              go_ret2
              exact ⟨by first | rfl | (simp; done) | (simp [*]; done), by repeat (first | exact Drawn0.refl _ | apply Drawn0.step)⟩
            · rw [if_neg c7] at H
              have c7b0 : (a0 == 117) = false := beq_eq_false_iff_ne.mpr c7
              have c7b1 : (a0 != 117) = true := bne_iff_ne.mpr c7
              by_cases c8 : a0 = 120
              · rw [if_pos c8] at H
                have c8b0 : (a0 == 120) = true := beq_iff_eq.mpr c8
                have c8b1 : (a0 != 120) = false := bne_eq_false_iff_eq.mpr c8
                clear c8
                simp only [Option.some.injEq, Prod.mk.injEq] at H
                obtain ⟨rfl, rfl⟩ := H
                go_enter Tryd.func59, Tryd.ntmps59
                go_wp2
                go_ret2
                exact ⟨by first | rfl | (simp; done) | (simp [*]; done), by repeat (first | exact Drawn0.refl _ | apply Drawn0.step)⟩
              · rw [if_neg c8] at H
                have c8b0 : (a0 == 120) = false := beq_eq_false_iff_ne.mpr c8
                have c8b1 : (a0 != 120) = true := bne_iff_ne.mpr c8
                by_cases c9 : a0 = 116
                · rw [if_pos c9] at H
                  have c9b0 : (a0 == 116) = true := beq_iff_eq.mpr c9
                  have c9b1 : (a0 != 116) = false := bne_eq_false_iff_eq.mpr c9
                  clear c9
                  simp only [Option.some.injEq, Prod.mk.injEq] at H
                  obtain ⟨rfl, rfl⟩ := H
                  go_enter Tryd.func59, Tryd.ntmps59
                  go_wp2
                  go_ret2
                  exact ⟨by first | rfl | (simp; done) | (simp [*]; done), by repeat (first | exact Drawn0.refl _ | apply Drawn0.step)⟩
                · rw [if_neg c9] at H
                  have c9b0 : (a0 == 116) = false := beq_eq_false_iff_ne.mpr c9
                  have c9b1 : (a0 != 116) = true := bne_iff_ne.mpr c9
                  by_cases c10 : a0 = 100
                  · rw [if_pos c10] at H
                    have c10b0 : (a0 == 100) = true := beq_iff_eq.mpr c10
                    have c10b1 : (a0 != 100) = false := bne_eq_false_iff_eq.mpr c10
                    clear c10
                    simp only [Option.some.injEq, Prod.mk.injEq] at H
                    obtain ⟨rfl, rfl⟩ := H
                    go_enter Tryd.func59, Tryd.ntmps59
                    go_wp2
                    go_ret2
                    exact ⟨by first | rfl | (simp; done) | (simp [*]; done), by repeat (first | exact Drawn0.refl _ | apply Drawn0.step)⟩
                  · rw [if_neg c10] at H
                    have c10b0 : (a0 == 100) = false := beq_eq_false_iff_ne.mpr c10
                    have c10b1 : (a0 != 100) = true := bne_iff_ne.mpr c10
                    by_cases c11 : a0 = 115
                    · rw [if_pos c11] at H
                      have c11b0 : (a0 == 115) = true := beq_iff_eq.mpr c11
                      have c11b1 : (a0 != 115) = false := bne_eq_false_iff_eq.mpr c11
                      clear c11
                      simp only [Option.some.injEq, Prod.mk.injEq] at H
                      obtain ⟨rfl, rfl⟩ := H
                      go_enter Tryd.func59, Tryd.ntmps59
                      go_wp2
                      go_ret2
                      exact ⟨by first | rfl | (simp; done) | (simp [*]; done), by repeat (first | exact Drawn0.refl _ | apply Drawn0.step)⟩
                    · rw [if_neg c11] at H
                      have c11b0 : (a0 == 115) = false := beq_eq_false_iff_ne.mpr c11
                      have c11b1 : (a0 != 115) = true := bne_iff_ne.mpr c11
                      by_cases c12 : a0 = 103
                      · rw [if_pos c12] at H
                        have c12b0 : (a0 == 103) = true := beq_iff_eq.mpr c12
                        have c12b1 : (a0 != 103) = false := bne_eq_false_iff_eq.mpr c12
                        clear c12
                        simp only [Option.some.injEq, Prod.mk.injEq] at H
                        obtain ⟨rfl, rfl⟩ := H
                        go_enter Tryd.func59, Tryd.ntmps59
                        go_wp2
                        go_ret2
                        exact ⟨by first | rfl | (simp; done) | (simp [*]; done), by repeat (first | exact Drawn0.refl _ | apply Drawn0.step)⟩
                      · rw [if_neg c12] at H
                        have c12b0 : (a0 == 103) = false := beq_eq_false_iff_ne.mpr c12
                        have c12b1 : (a0 != 103) = true := bne_iff_ne.mpr c12
                        by_cases c13 : a0 = 111
                        · rw [if_pos c13] at H
                          have c13b0 : (a0 == 111) = true := beq_iff_eq.mpr c13
                          have c13b1 : (a0 != 111) = false := bne_eq_false_iff_eq.mpr c13
                          clear c13
                          simp only [Option.some.injEq, Prod.mk.injEq] at H
                          obtain ⟨rfl, rfl⟩ := H
                          go_enter Tryd.func59, Tryd.ntmps59
                          go_wp2
                          go_ret2
                          exact ⟨by first | rfl | (simp; done) | (simp [*]; done), by repeat (first | exact Drawn0.refl _ | apply Drawn0.step)⟩
                        · rw [if_neg c13] at H
                          have c13b0 : (a0 == 111) = false := beq_eq_false_iff_ne.mpr c13
                          have c13b1 : (a0 != 111) = true := bne_iff_ne.mpr c13
                          by_cases c14 : a0 = 118
                          · rw [if_pos c14] at H
                            have c14b0 : (a0 == 118) = true := beq_iff_eq.mpr c14
                            have c14b1 : (a0 != 118) = false := bne_eq_false_iff_eq.mpr c14
                            clear c14
                            simp only [Option.some.injEq, Prod.mk.injEq] at H
                            obtain ⟨rfl, rfl⟩ := H
                            go_enter Tryd.func59, Tryd.ntmps59
                            go_wp2
                            go_ret2
                            exact ⟨by first | rfl | (simp; done) | (simp [*]; done), by repeat (first | exact Drawn0.refl _ | apply Drawn0.step)⟩
                          · rw [if_neg c14] at H
                            have c14b0 : (a0 == 118) = false := beq_eq_false_iff_ne.mpr c14
                            have c14b1 : (a0 != 118) = true := bne_iff_ne.mpr c14
                            by_cases c15 : a0 = 104
                            · rw [if_pos c15] at H
                              have c15b0 : (a0 == 104) = true := beq_iff_eq.mpr c15
                              have c15b1 : (a0 != 104) = false := bne_eq_false_iff_eq.mpr c15
                              clear c15
                              simp only [Option.some.injEq, Prod.mk.injEq] at H
                              obtain ⟨rfl, rfl⟩ := H
                              go_enter Tryd.func59, Tryd.ntmps59
                              go_wp2
                              go_ret2
                              exact ⟨by first | rfl | (simp; done) | (simp [*]; done), by repeat (first | exact Drawn0.refl _ | apply Drawn0.step)⟩
                            · rw [if_neg c15] at H
                              have c15b0 : (a0 == 104) = false := beq_eq_false_iff_ne.mpr c15
                              have c15b1 : (a0 != 104) = true := bne_iff_ne.mpr c15
                              simp only [Option.some.injEq, Prod.mk.injEq] at H
                              obtain ⟨rfl, rfl⟩ := H
                              go_enter Tryd.func59, Tryd.ntmps59
                              go_wp2
                              go_ret2
                              exact ⟨by first | rfl | (simp; done) | (simp [*]; done), by repeat (first | exact Drawn0.refl _ | apply Drawn0.step)⟩
end Go.Proofs.YtnojjfklnihmnaaDoor.PFnSgOfParts

/- Part of the proof of LawFnSgOfParts. -/
import Derived.Test.YtnojjfklnihmnaaDoorGvBd
import Derived.Test.YtnojjfklnihmnaaDoorPFnSgOfPartsx3
set_option linter.unusedVariables false
set_option linter.unusedSimpArgs false
namespace Go.Proofs.YtnojjfklnihmnaaDoor.PFnSgOfParts
open Go.RowKit Go.Proofs.YtnojjfklnihmnaaDoorW.PrintWords Go.Proofs.YtnojjfklnihmnaaDoorW.PrintLast Go.Proofs.YtnojjfklnihmnaaDoorW.PrintMore
attribute [local go_sem] max2_int min2_int max_two min_two max_three min_three max_four min_four   -- for this text's walks alone
set_option linter.unusedVariables false
set_option linter.unusedSimpArgs false
mutual
def laws_sgKeys.l0 : Nat → Int → Int → Int → ByteArray → List (S25) → Option (Bool)
  | 0, _, _, _, _, _ => none
  | k + 1, x3, x153000, x153001, x153002, x153003 => if x153000 = 97 then (laws_sgKeys.j1 k x3 (decide ((wrap64 (x3 + 1)) < (x153002.size : Int))) x153000 x153001 x153002 x153003) else (laws_sgKeys.j1 k x3 false x153000 x153001 x153002 x153003)
def laws_sgKeys.j1 : Nat → Int → Bool → Int → Int → ByteArray → List (S25) → Option (Bool)
  | 0, _, _, _, _, _, _ => none
  | k + 1, x3, x16, x153000, x153001, x153002, x153003 => if x16 = true then (if 0 ≤ x3 then (if x3 < (x153002.size : Int) then (if (bt x153002 x3) = 123 then (if 0 ≤ (wrap64 (x3 + 1)) then (if (wrap64 (x3 + 1)) < (x153002.size : Int) then (if (bt x153002 (wrap64 (x3 + 1))) = 98 then (some false) else (if (bt x153002 (wrap64 (x3 + 1))) = 103 then (some false) else (laws_sgKeys.l0 k (wrap64 (x3 + 1)) x153000 x153001 x153002 x153003))) else (none)) else (none)) else (laws_sgKeys.l0 k (wrap64 (x3 + 1)) x153000 x153001 x153002 x153003)) else (none)) else (none)) else (laws_sgKeys.l1 k x153003 (x153003.length : Int) 0)
def laws_sgKeys.l1 : Nat → List (S25) → Int → Int → Option (Bool)
  | 0, _, _, _ => none
  | k + 1, x41, x42, x43 => if x43 < x42 then (if 0 ≤ x43 then (if x43 < (x41.length : Int) then ((laws_sgKeys.f k ((rd_T25 x41 x43).f0) ((rd_T25 x41 x43).f1) ((rd_T25 x41 x43).f2) ((rd_T25 x41 x43).f3)).bind fun t155 => (if t155 = true then (laws_sgKeys.l1 k x41 x42 (wrap64 (x43 + 1))) else (some false))) else (none)) else (none)) else (some true)
def laws_sgKeys.f : Nat → Int → Int → ByteArray → List (S25) → Option (Bool)
  | 0, _, _, _, _ => none
  | k + 1, a0_0, a0_1, a0_2, l0_3 => laws_sgKeys.l0 k 0 a0_0 a0_1 a0_2 l0_3
end
set_option maxHeartbeats 8000000 in
set_option maxRecDepth 100000 in
theorem laws_sgKeys.calls (k : Nat) : ∀ (a0_0 : Int) (a0_1 : Int) (a0_2 : ByteArray) (A0_3 : Option Addr) (c0_3 : Nat) (l0_3 : List (S25)) (r : Bool) (w : World) (hr0_3 : Kd.C k25 w A0_3 l0_3.length l0_3) (hc0_3 : l0_3.length ≤ c0_3) (h : laws_sgKeys.f k a0_0 a0_1 a0_2 l0_3 = some r),
    Calls Tryd.prog 9 #[.agg #[.int .u8 a0_0, .int .u64 a0_1, .string a0_2, .slice A0_3 l0_3.length c0_3]] w fun e w' => e = .returned (.bool r) ∧ Below w.heap.size w w' := by
  induction k using Nat.strongRecOn with
  | _ k ih =>
  intro a0_0 a0_1 a0_2 A0_3 c0_3 l0_3 r w hr0_3 hc0_3 h
  cases k with
  | zero => exact absurd h (by simp [laws_sgKeys.f])
  | succ k =>
  simp only [laws_sgKeys.f] at h
  have hu25 := Tryd.underlying25
  have HR0_3 := Aside0.mk hr0_3
  have HC0_3 := Aside0.mk hc0_3
  clear hr0_3 hc0_3
  have HB := Aside0.mk (Below.refl w.heap.size w)
  have H : (laws_sgKeys.l0 k 0 a0_0 a0_1 a0_2 l0_3) = some r := h
  clear h
  have H' := Aside0.mk H
  clear H
  go_enter Tryd.func9, Tryd.ntmps9
  go_wp2_with (first | ((with_reducible refine gate_dst (N := 1) rfl ?_); (try (refine gate_guard (by rfl) ?_; dsimp only)); refine box_event ?hg (N := 1) ?hd (cs := #[.int .u8 a0_0, .int .u64 a0_1, .string a0_2, .slice A0_3 l0_3.length c0_3]) (t := 25) ?hr ?_; (case hd => rfl); (case hg => rfl); (case hr => first | (go_simp; done) | (go_simp; rfl)); intro gb152 hg w2 hbox hb; have n0_ := Aside0.mk (below_step (by repeat (first | (with_reducible first | exact HB.out | apply below_alloc | apply pw_below_drewN | apply below_drew1) | exact HB.out)) hb); have n1_ := Aside0.mk (hbox); have n2_ := Aside0.mk ((by rw [hg]; exact (below_size (by repeat (first | (with_reducible first | exact HB.out | apply below_alloc | apply pw_below_drewN | apply below_drew1) | exact HB.out))) : w.heap.size ≤ gb152)); have n3_ := Aside0.mk ((by rw [hg]; exact (below_size (by repeat (first | (with_reducible first | exact HB.out | apply below_alloc | apply pw_below_drewN | apply below_drew1) | exact HB.out))) : w.heap.size ≤ gb152)); clear HB; have HB := n0_; have BK152 := n1_; have GW152 := n2_; have GE152 := n3_; clear n0_ n1_ n2_ n3_; clear hb hbox hg))
  go_loopg [3] k (fun kq v3 w' => ∃ (x3_1 : Int), v3 = .int .i64 x3_1 ∧ Aside0 (laws_sgKeys.l0 kq x3_1 a0_0 a0_1 a0_2 l0_3 = some r) ∧ Aside0 (kq ≤ k) ∧ Aside0 (w'.heap[gb152]? = some (.cells #[.int .u8 a0_0, .int .u64 a0_1, .string a0_2, (.slice A0_3 l0_3.length c0_3)] 25 (0, 0))) ∧ Aside0 (Below w.heap.size w w'))
  case atStart => exact ⟨(0), (by first | rfl | (simp; done) | (simp [*]; done)), H', ⟨Nat.le_refl _⟩, ⟨by (with_reducible repeat (first | refine blk_drewN ?_ _ | refine blk_drew ?_ | refine blk_alloc ?_ _)); exact BK152.out⟩, ⟨by repeat (first | (with_reducible first | exact HB.out | apply below_alloc | apply pw_below_drewN | apply below_drew1 | refine below_set ?_ GE152.out) | exact HB.out)⟩⟩
  case round =>
    clear H'
    try clear p2
    obtain ⟨x3_1, rfl, HA, HK1, BK152, HB⟩ := hrel
    cases gk with
    | zero => exact absurd HA.out (by simp [laws_sgKeys.l0])
    | succ k1 =>
      have H := HA.out
      clear HA
      simp only [laws_sgKeys.l0] at H
      have HC3 := Aside0.mk H
      clear H
      go_upto_region 2 with (fail)
      go_cut [16] (fun v16 wc => ∃ (kq : Nat) (x16_2 : Bool), v16 = .bool x16_2 ∧ Aside0 (laws_sgKeys.j1 kq x3_1 x16_2 a0_0 a0_1 a0_2 l0_3 = some r) ∧ Aside0 (kq ≤ k1) ∧ Aside0 (wc.heap[gb152]? = some (.cells #[.int .u8 a0_0, .int .u64 a0_1, .string a0_2, (.slice A0_3 l0_3.length c0_3)] 25 (0, 0))) ∧ Aside0 (Below w.heap.size w wc))
      case first =>
        have H := HC3.out
        clear HC3
        by_cases c4 : a0_0 = 97
        · rw [if_pos c4] at H
          have c4b0 : (a0_0 == 97) = true := beq_iff_eq.mpr c4
          have c4b1 : (a0_0 != 97) = false := bne_eq_false_iff_eq.mpr c4
          clear c4
          (first | rw [c4b0] | (simp only [i64_w, i32_w]; rw [c4b0]) | skip)
          have H' := Aside0.mk H
          clear H
          have hcz5_0 : wr.cell? ⟨gb152, 0, none⟩ = some (.int .u8 a0_0) := (blk_cell BK152.out 0).trans rfl
          have hcz5_1 : wr.cell? ⟨gb152, 1, none⟩ = some (.int .u64 a0_1) := (blk_cell BK152.out 1).trans rfl
          have hcz5_2 : wr.cell? ⟨gb152, 2, none⟩ = some (.string a0_2) := (blk_cell BK152.out 2).trans rfl
          have hcz5_3 : wr.cell? ⟨gb152, 3, none⟩ = some (.slice A0_3 l0_3.length c0_3) := (blk_cell BK152.out 3).trans rfl
          have hfz5_0 := blk_frozen BK152.out 0
          have hfz5_1 := blk_frozen BK152.out 1
          have hfz5_2 := blk_frozen BK152.out 2
          have hfz5_3 := blk_frozen BK152.out 3
          go_wp2
          go_meet
          case rel => exact ⟨_, (decide ((wrap64 (x3_1 + 1)) < (a0_2.size : Int))), (by first | rfl | (simp; done) | (simp [*]; done)), H', ⟨by have := HK1.out; first | omega | exact Nat.le_refl _⟩, ⟨by (with_reducible repeat (first | refine blk_drewN ?_ _ | refine blk_drew ?_ | refine blk_alloc ?_ _)); exact BK152.out⟩, ⟨by repeat (first | (with_reducible first | exact HB.out | apply below_alloc | apply pw_below_drewN | apply below_drew1 | refine below_set ?_ GE152.out) | exact HB.out)⟩⟩
        · rw [if_neg c4] at H
          have c4b0 : (a0_0 == 97) = false := beq_eq_false_iff_ne.mpr c4
          have c4b1 : (a0_0 != 97) = true := bne_iff_ne.mpr c4
          (first | rw [c4b0] | (simp only [i64_w, i32_w]; rw [c4b0]) | skip)
          have H' := Aside0.mk H
          clear H
          have hcz6_0 : wr.cell? ⟨gb152, 0, none⟩ = some (.int .u8 a0_0) := (blk_cell BK152.out 0).trans rfl
          have hcz6_1 : wr.cell? ⟨gb152, 1, none⟩ = some (.int .u64 a0_1) := (blk_cell BK152.out 1).trans rfl
          have hcz6_2 : wr.cell? ⟨gb152, 2, none⟩ = some (.string a0_2) := (blk_cell BK152.out 2).trans rfl
          have hcz6_3 : wr.cell? ⟨gb152, 3, none⟩ = some (.slice A0_3 l0_3.length c0_3) := (blk_cell BK152.out 3).trans rfl
          have hfz6_0 := blk_frozen BK152.out 0
          have hfz6_1 := blk_frozen BK152.out 1
          have hfz6_2 := blk_frozen BK152.out 2
          have hfz6_3 := blk_frozen BK152.out 3
          go_wp2
          go_meet
          case rel => exact ⟨_, (false), (by first | rfl | (simp; done) | (simp [*]; done)), H', ⟨by have := HK1.out; first | omega | exact Nat.le_refl _⟩, ⟨by (with_reducible repeat (first | refine blk_drewN ?_ _ | refine blk_drew ?_ | refine blk_alloc ?_ _)); exact BK152.out⟩, ⟨by repeat (first | (with_reducible first | exact HB.out | apply below_alloc | apply pw_below_drewN | apply below_drew1 | refine below_set ?_ GE152.out) | exact HB.out)⟩⟩
      case rest =>
        clear HC3
        try clear p2
        try clear c4
        try clear c4b0
        try clear c4b1
        try clear p6
        try clear hcz5_0
        try clear hcz5_1
        try clear hcz5_2
        try clear hcz5_3
        try clear hcz6_0
        try clear hcz6_1
        try clear hcz6_2
        try clear hcz6_3
        try clear hfz5_0
        try clear hfz5_1
        try clear hfz5_2
        try clear hfz5_3
        try clear hfz6_0
        try clear hfz6_1
        try clear hfz6_2
        try clear hfz6_3
        try clear p2
        obtain ⟨kq, x16_2, rfl, HA, HJ2, BK152, HB⟩ := hcut
        cases kq with
        | zero => exact absurd HA.out (by simp [laws_sgKeys.j1])
        | succ kj2 =>
          have H := HA.out
          clear HA
          simp only [laws_sgKeys.j1] at H
          by_cases c7 : x16_2 = true
          · subst c7
            have H1 : (if 0 ≤ x3_1 then (if x3_1 < (a0_2.size : Int) then (if (bt a0_2 x3_1) = 123 then (if 0 ≤ (wrap64 (x3_1 + 1)) then (if (wrap64 (x3_1 + 1)) < (a0_2.size : Int) then (if (bt a0_2 (wrap64 (x3_1 + 1))) = 98 then (some false) else (if (bt a0_2 (wrap64 (x3_1 + 1))) = 103 then (some false) else (laws_sgKeys.l0 kj2 (wrap64 (x3_1 + 1)) a0_0 a0_1 a0_2 l0_3))) else (none)) else (none)) else (laws_sgKeys.l0 kj2 (wrap64 (x3_1 + 1)) a0_0 a0_1 a0_2 l0_3)) else (none)) else (none)) = some r := by rw [if_pos rfl] at H; exact H
            clear H
            have H := H1
            clear H1
            by_cases c8 : 0 ≤ x3_1
            · rw [if_pos c8] at H
              have c8b0 : decide (0 ≤ x3_1) = true := decide_eq_true c8
              clear c8
              by_cases c9 : x3_1 < (a0_2.size : Int)
              · rw [if_pos c9] at H
                have c9b0 : decide (x3_1 < (a0_2.size : Int)) = true := decide_eq_true c9
                clear c9
                by_cases c11 : (bt a0_2 x3_1) = 123
                · rw [if_pos c11] at H
                  have c11b0 : ((bt a0_2 x3_1) == 123) = true := beq_iff_eq.mpr c11
                  have c11b1 : ((bt a0_2 x3_1) != 123) = false := bne_eq_false_iff_eq.mpr c11
                  clear c11
                  obtain ⟨ji12, hji12⟩ : ∃ j_ : Int, (wrap64 (x3_1 + 1)) = j_ := ⟨_, rfl⟩
                  replace H : (if 0 ≤ (ji12) then (if (ji12) < (a0_2.size : Int) then (if (bt a0_2 (ji12)) = 98 then (some false) else (if (bt a0_2 (ji12)) = 103 then (some false) else (laws_sgKeys.l0 kj2 ji12 a0_0 a0_1 a0_2 l0_3))) else (none)) else (none)) = some r := by first | (rw [hji12] at H; exact H) | (simp only [hji12] at H ⊢; exact H)
                  have hji12w : (IntKind.i64.wrap (x3_1 + 1)) = ji12 := (i64_w _).trans hji12
                  by_cases c13 : 0 ≤ (ji12)
                  · rw [if_pos c13] at H
                    have c13b0 : decide (0 ≤ (ji12)) = true := decide_eq_true c13
                    clear c13
                    by_cases c14 : (ji12) < (a0_2.size : Int)
                    · rw [if_pos c14] at H
                      have c14b0 : decide ((ji12) < (a0_2.size : Int)) = true := decide_eq_true c14
                      clear c14
                      by_cases c16 : (bt a0_2 (ji12)) = 98
                      · rw [if_pos c16] at H
                        have c16b0 : ((bt a0_2 (ji12)) == 98) = true := beq_iff_eq.mpr c16
                        have c16b1 : ((bt a0_2 (ji12)) != 98) = false := bne_eq_false_iff_eq.mpr c16
                        clear c16
                        obtain rfl := Option.some.inj H
                        have hcz17_0 : wc.cell? ⟨gb152, 0, none⟩ = some (.int .u8 a0_0) := (blk_cell BK152.out 0).trans rfl
                        have hcz17_1 : wc.cell? ⟨gb152, 1, none⟩ = some (.int .u64 a0_1) := (blk_cell BK152.out 1).trans rfl
                        have hcz17_2 : wc.cell? ⟨gb152, 2, none⟩ = some (.string a0_2) := (blk_cell BK152.out 2).trans rfl
                        have hcz17_3 : wc.cell? ⟨gb152, 3, none⟩ = some (.slice A0_3 l0_3.length c0_3) := (blk_cell BK152.out 3).trans rfl
                        have hfz17_0 := blk_frozen BK152.out 0
                        have hfz17_1 := blk_frozen BK152.out 1
                        have hfz17_2 := blk_frozen BK152.out 2
                        have hfz17_3 := blk_frozen BK152.out 3
                        have p10 : 0 ≤ (x3_1 : Int) := of_decide_eq_true (by first | (with_reducible assumption) | assumption)
                        have q10 : x3_1 < (a0_2.size : Int) := of_decide_eq_true (by first | (with_reducible assumption) | assumption)
                        have hx10 := bt_at a0_2 x3_1
                        replace p10 := eq_true p10
                        replace q10 := eq_true q10
                        have p15 : 0 ≤ ((ji12) : Int) := of_decide_eq_true (by first | (with_reducible assumption) | assumption)
                        have q15 : (ji12) < (a0_2.size : Int) := of_decide_eq_true (by first | (with_reducible assumption) | assumption)
                        have hx15 := bt_at a0_2 (ji12)
                        replace p15 := eq_true p15
                        replace q15 := eq_true q15
                        go_wp2
                        go_ret
                        exact ⟨by first | rfl | (simp [errW_none, errW_some] <;> rfl) | (simp only [← hji12]; first | rfl | (simp [errW_none, errW_some] <;> rfl)) | (simp [*, errW_none, errW_some] <;> rfl), by repeat (first | (with_reducible first | exact HB.out | apply below_alloc | apply pw_below_drewN | apply below_drew1 | refine below_set ?_ GE152.out) | exact HB.out)⟩
                      · rw [if_neg c16] at H
                        have c16b0 : ((bt a0_2 (ji12)) == 98) = false := beq_eq_false_iff_ne.mpr c16
                        have c16b1 : ((bt a0_2 (ji12)) != 98) = true := bne_iff_ne.mpr c16
                        by_cases c19 : (bt a0_2 (ji12)) = 103
                        · rw [if_pos c19] at H
                          have c19b0 : ((bt a0_2 (ji12)) == 103) = true := beq_iff_eq.mpr c19
                          have c19b1 : ((bt a0_2 (ji12)) != 103) = false := bne_eq_false_iff_eq.mpr c19
                          clear c19
                          obtain rfl := Option.some.inj H
                          have hcz20_0 : wc.cell? ⟨gb152, 0, none⟩ = some (.int .u8 a0_0) := (blk_cell BK152.out 0).trans rfl
                          have hcz20_1 : wc.cell? ⟨gb152, 1, none⟩ = some (.int .u64 a0_1) := (blk_cell BK152.out 1).trans rfl
                          have hcz20_2 : wc.cell? ⟨gb152, 2, none⟩ = some (.string a0_2) := (blk_cell BK152.out 2).trans rfl
                          have hcz20_3 : wc.cell? ⟨gb152, 3, none⟩ = some (.slice A0_3 l0_3.length c0_3) := (blk_cell BK152.out 3).trans rfl
                          have hfz20_0 := blk_frozen BK152.out 0
                          have hfz20_1 := blk_frozen BK152.out 1
                          have hfz20_2 := blk_frozen BK152.out 2
                          have hfz20_3 := blk_frozen BK152.out 3
                          have p10 : 0 ≤ (x3_1 : Int) := of_decide_eq_true (by first | (with_reducible assumption) | assumption)
                          have q10 : x3_1 < (a0_2.size : Int) := of_decide_eq_true (by first | (with_reducible assumption) | assumption)
                          have hx10 := bt_at a0_2 x3_1
                          replace p10 := eq_true p10
                          replace q10 := eq_true q10
                          have p15 : 0 ≤ ((ji12) : Int) := of_decide_eq_true (by first | (with_reducible assumption) | assumption)
                          have q15 : (ji12) < (a0_2.size : Int) := of_decide_eq_true (by first | (with_reducible assumption) | assumption)
                          have hx15 := bt_at a0_2 (ji12)
                          replace p15 := eq_true p15
                          replace q15 := eq_true q15
                          have p18 : 0 ≤ ((ji12) : Int) := of_decide_eq_true (by first | (with_reducible assumption) | assumption)
                          have q18 : (ji12) < (a0_2.size : Int) := of_decide_eq_true (by first | (with_reducible assumption) | assumption)
                          have hx18 := bt_at a0_2 (ji12)
                          replace p18 := eq_true p18
                          replace q18 := eq_true q18
                          go_wp2
                          go_ret
                          exact ⟨by first | rfl | (simp [errW_none, errW_some] <;> rfl) | (simp only [← hji12]; first | rfl | (simp [errW_none, errW_some] <;> rfl)) | (simp [*, errW_none, errW_some] <;> rfl), by repeat (first | (with_reducible first | exact HB.out | apply below_alloc | apply pw_below_drewN | apply below_drew1 | refine below_set ?_ GE152.out) | exact HB.out)⟩
                        · rw [if_neg c19] at H
                          have c19b0 : ((bt a0_2 (ji12)) == 103) = false := beq_eq_false_iff_ne.mpr c19
                          have c19b1 : ((bt a0_2 (ji12)) != 103) = true := bne_iff_ne.mpr c19
                          have H' := Aside0.mk H
                          clear H
                          have hcz21_0 : wc.cell? ⟨gb152, 0, none⟩ = some (.int .u8 a0_0) := (blk_cell BK152.out 0).trans rfl
                          have hcz21_1 : wc.cell? ⟨gb152, 1, none⟩ = some (.int .u64 a0_1) := (blk_cell BK152.out 1).trans rfl
                          have hcz21_2 : wc.cell? ⟨gb152, 2, none⟩ = some (.string a0_2) := (blk_cell BK152.out 2).trans rfl
                          have hcz21_3 : wc.cell? ⟨gb152, 3, none⟩ = some (.slice A0_3 l0_3.length c0_3) := (blk_cell BK152.out 3).trans rfl
                          have hfz21_0 := blk_frozen BK152.out 0
                          have hfz21_1 := blk_frozen BK152.out 1
                          have hfz21_2 := blk_frozen BK152.out 2
                          have hfz21_3 := blk_frozen BK152.out 3
                          have p10 : 0 ≤ (x3_1 : Int) := of_decide_eq_true (by first | (with_reducible assumption) | assumption)
                          have q10 : x3_1 < (a0_2.size : Int) := of_decide_eq_true (by first | (with_reducible assumption) | assumption)
                          have hx10 := bt_at a0_2 x3_1
                          replace p10 := eq_true p10
                          replace q10 := eq_true q10
                          have p15 : 0 ≤ ((ji12) : Int) := of_decide_eq_true (by first | (with_reducible assumption) | assumption)
                          have q15 : (ji12) < (a0_2.size : Int) := of_decide_eq_true (by first | (with_reducible assumption) | assumption)
                          have hx15 := bt_at a0_2 (ji12)
                          replace p15 := eq_true p15
                          replace q15 := eq_true q15
                          have p18 : 0 ≤ ((ji12) : Int) := of_decide_eq_true (by first | (with_reducible assumption) | assumption)
                          have q18 : (ji12) < (a0_2.size : Int) := of_decide_eq_true (by first | (with_reducible assumption) | assumption)
                          have hx18 := bt_at a0_2 (ji12)
                          replace p18 := eq_true p18
                          replace q18 := eq_true q18
                          go_wp2
                          go_roundg kj2
                          case measure => have := HK1.out; have := HJ2.out; omega
                          case rel => exact ⟨(ji12), (by first | rfl | (simp; done) | (simp only [← hji12] <;> (first | rfl | simp)) | (simp [*]; done)), H', ⟨by have := HK1.out; have := HJ2.out; omega⟩, ⟨by (with_reducible repeat (first | refine blk_drewN ?_ _ | refine blk_drew ?_ | refine blk_alloc ?_ _)); exact BK152.out⟩, ⟨by repeat (first | (with_reducible first | exact HB.out | apply below_alloc | apply pw_below_drewN | apply below_drew1 | refine below_set ?_ GE152.out) | exact HB.out)⟩⟩
                    · rw [if_neg c14] at H
                      exact absurd H (by simp)
                  · rw [if_neg c13] at H
                    exact absurd H (by simp)
                · rw [if_neg c11] at H
                  have c11b0 : ((bt a0_2 x3_1) == 123) = false := beq_eq_false_iff_ne.mpr c11
                  have c11b1 : ((bt a0_2 x3_1) != 123) = true := bne_iff_ne.mpr c11
                  have H' := Aside0.mk H
                  clear H
                  have hcz22_0 : wc.cell? ⟨gb152, 0, none⟩ = some (.int .u8 a0_0) := (blk_cell BK152.out 0).trans rfl
                  have hcz22_1 : wc.cell? ⟨gb152, 1, none⟩ = some (.int .u64 a0_1) := (blk_cell BK152.out 1).trans rfl
                  have hcz22_2 : wc.cell? ⟨gb152, 2, none⟩ = some (.string a0_2) := (blk_cell BK152.out 2).trans rfl
                  have hcz22_3 : wc.cell? ⟨gb152, 3, none⟩ = some (.slice A0_3 l0_3.length c0_3) := (blk_cell BK152.out 3).trans rfl
                  have hfz22_0 := blk_frozen BK152.out 0
                  have hfz22_1 := blk_frozen BK152.out 1
                  have hfz22_2 := blk_frozen BK152.out 2
                  have hfz22_3 := blk_frozen BK152.out 3
                  have p10 : 0 ≤ (x3_1 : Int) := of_decide_eq_true (by first | (with_reducible assumption) | assumption)
                  have q10 : x3_1 < (a0_2.size : Int) := of_decide_eq_true (by first | (with_reducible assumption) | assumption)
                  have hx10 := bt_at a0_2 x3_1
                  replace p10 := eq_true p10
                  replace q10 := eq_true q10
                  go_wp2
                  go_roundg kj2
                  case measure => have := HK1.out; have := HJ2.out; omega
                  case rel => exact ⟨(wrap64 (x3_1 + 1)), (by first | rfl | (simp; done) | (simp [*]; done)), H', ⟨by have := HK1.out; have := HJ2.out; omega⟩, ⟨by (with_reducible repeat (first | refine blk_drewN ?_ _ | refine blk_drew ?_ | refine blk_alloc ?_ _)); exact BK152.out⟩, ⟨by repeat (first | (with_reducible first | exact HB.out | apply below_alloc | apply pw_below_drewN | apply below_drew1 | refine below_set ?_ GE152.out) | exact HB.out)⟩⟩
              · rw [if_neg c9] at H
                exact absurd H (by simp)
            · rw [if_neg c8] at H
              exact absurd H (by simp)
          · replace c7 := Bool.eq_false_iff.mpr c7
            subst c7
            have H1 : (laws_sgKeys.l1 kj2 l0_3 (l0_3.length : Int) 0) = some r := by rw [if_neg (show ¬ (false = true) by decide)] at H; exact H
            clear H
            have H := H1
            clear H1
            have H' := Aside0.mk H
            clear H
            have hcz23_0 : wc.cell? ⟨gb152, 0, none⟩ = some (.int .u8 a0_0) := (blk_cell BK152.out 0).trans rfl
            have hcz23_1 : wc.cell? ⟨gb152, 1, none⟩ = some (.int .u64 a0_1) := (blk_cell BK152.out 1).trans rfl
            have hcz23_2 : wc.cell? ⟨gb152, 2, none⟩ = some (.string a0_2) := (blk_cell BK152.out 2).trans rfl
            have hcz23_3 : wc.cell? ⟨gb152, 3, none⟩ = some (.slice A0_3 l0_3.length c0_3) := (blk_cell BK152.out 3).trans rfl
            have hfz23_0 := blk_frozen BK152.out 0
            have hfz23_1 := blk_frozen BK152.out 1
            have hfz23_2 := blk_frozen BK152.out 2
            have hfz23_3 := blk_frozen BK152.out 3
            go_wp2
            go_loopg [43] kj2 (fun kq v43 w' => ∃ (x43_3 : Int), v43 = .int .i64 x43_3 ∧ Aside0 (laws_sgKeys.l1 kq l0_3 (l0_3.length : Int) x43_3 = some r) ∧ Aside0 (kq ≤ kj2) ∧ Aside0 (w'.heap[gb152]? = some (.cells #[.int .u8 a0_0, .int .u64 a0_1, .string a0_2, (.slice A0_3 l0_3.length c0_3)] 25 (0, 0))) ∧ Aside0 (Below w.heap.size w w'))
            case atStart => exact ⟨(0), (by first | rfl | (simp; done) | (simp [*]; done)), H', ⟨Nat.le_refl _⟩, ⟨by (with_reducible repeat (first | refine blk_drewN ?_ _ | refine blk_drew ?_ | refine blk_alloc ?_ _)); exact BK152.out⟩, ⟨by repeat (first | (with_reducible first | exact HB.out | apply below_alloc | apply pw_below_drewN | apply below_drew1 | refine below_set ?_ GE152.out) | exact HB.out)⟩⟩
            case round =>
              clear H'
              try clear c1
              try clear p1
              try clear q1
              try clear hx1
              try clear p2
              try clear c4
              try clear c4b0
              try clear c4b1
              try clear p6
              try clear c7
              try clear c8
              try clear c8b0
              try clear c9
              try clear c9b0
              try clear p10
              try clear q10
              try clear hx10
              try clear c11
              try clear c11b0
              try clear c11b1
              try clear c13
              try clear c13b0
              try clear c14
              try clear c14b0
              try clear p15
              try clear q15
              try clear hx15
              try clear c16
              try clear c16b0
              try clear c16b1
              try clear p18
              try clear q18
              try clear hx18
              try clear c19
              try clear c19b0
              try clear c19b1
              try clear hcz17_0
              try clear hcz17_1
              try clear hcz17_2
              try clear hcz17_3
              try clear hcz20_0
              try clear hcz20_1
              try clear hcz20_2
              try clear hcz20_3
              try clear hcz21_0
              try clear hcz21_1
              try clear hcz21_2
              try clear hcz21_3
              try clear hcz22_0
              try clear hcz22_1
              try clear hcz22_2
              try clear hcz22_3
              try clear hcz23_0
              try clear hcz23_1
              try clear hcz23_2
              try clear hcz23_3
              try clear hcz5_0
              try clear hcz5_1
              try clear hcz5_2
              try clear hcz5_3
              try clear hcz6_0
              try clear hcz6_1
              try clear hcz6_2
              try clear hcz6_3
              try clear hfz17_0
              try clear hfz17_1
              try clear hfz17_2
              try clear hfz17_3
              try clear hfz20_0
              try clear hfz20_1
              try clear hfz20_2
              try clear hfz20_3
              try clear hfz21_0
              try clear hfz21_1
              try clear hfz21_2
              try clear hfz21_3
              try clear hfz22_0
              try clear hfz22_1
              try clear hfz22_2
              try clear hfz22_3
              try clear hfz23_0
              try clear hfz23_1
              try clear hfz23_2
              try clear hfz23_3
              try clear hfz5_0
              try clear hfz5_1
              try clear hfz5_2
              try clear hfz5_3
              try clear hfz6_0
              try clear hfz6_1
              try clear hfz6_2
              try clear hfz6_3
              try clear p10
              try clear p15
              try clear p18
              try clear p2
              try clear p6
              try clear q10
              try clear q15
              try clear q18
              obtain ⟨x43_3, rfl, HA, HK3, BK152, HB⟩ := hrel
              cases gk with
              | zero => exact absurd HA.out (by simp [laws_sgKeys.l1])
              | succ k3 =>
                have H := HA.out
                clear HA
                simp only [laws_sgKeys.l1] at H
                by_cases c24 : x43_3 < (l0_3.length : Int)
                · rw [if_pos c24] at H
                  have c24b0 : decide (x43_3 < (l0_3.length : Int)) = true := decide_eq_true c24
                  clear c24
                  by_cases c25 : 0 ≤ x43_3
                  · rw [if_pos c25] at H
                    have c25b0 : decide (0 ≤ x43_3) = true := decide_eq_true c25
                    clear c25
                    by_cases c26 : x43_3 < (l0_3.length : Int)
                    · rw [if_pos c26] at H
                      have c26b0 : decide (x43_3 < (l0_3.length : Int)) = true := decide_eq_true c26
                      clear c26
                      replace H := Option.bind_eq_some_iff.mp H
                      obtain ⟨t155, A270, H⟩ := H
                      replace H : (if t155 = true then (laws_sgKeys.l1 k3 l0_3 (l0_3.length : Int) (wrap64 (x43_3 + 1))) else (some false)) = some r := H
                      have A27 := Aside0.mk A270
                      clear A270
                      by_cases c28 : t155 = true
                      · subst c28
                        have H1 : (laws_sgKeys.l1 k3 l0_3 (l0_3.length : Int) (wrap64 (x43_3 + 1))) = some r := by rw [if_pos rfl] at H; exact H
                        clear H
                        have H := H1
                        clear H1
                        have H' := Aside0.mk H
                        clear H
                        have p153 : 0 ≤ (x43_3 : Int) := of_decide_eq_true (by first | (with_reducible assumption) | assumption)
                        have q153 : x43_3 < (l0_3.length : Int) := of_decide_eq_true (by first | (with_reducible assumption) | assumption)
                        obtain ⟨ad153, A153_3, c153_3, e153, hx153_0, hx153_1, hx153_2, hx153_3, hl153_3, hi153_3⟩ := at_T25 HR0_3.out x43_3 p153 q153
                        cases e153
                        replace hx153_0 := (HB.out.cell (World.block_lt_of_cell? w _ hx153_0)).trans hx153_0
                        replace hx153_1 := (HB.out.cell (World.block_lt_of_cell? w _ hx153_1)).trans hx153_1
                        replace hx153_2 := (HB.out.cell (World.block_lt_of_cell? w _ hx153_2)).trans hx153_2
                        replace hx153_3 := (HB.out.cell (World.block_lt_of_cell? w _ hx153_3)).trans hx153_3
                        have HR153_3 := Aside0.mk hi153_3
                        have HC153_3 := Aside0.mk hl153_3
                        clear hi153_3 hl153_3
                        replace p153 := eq_true p153
                        replace q153 := eq_true q153
                        go_wp2_with (first | ((with_reducible refine gate_dst (N := 5) rfl ?_); (try (refine gate_guard (by rfl) ?_; dsimp only)); refine box_event ?hg (N := 5) ?hd (cs := #[.int .u8 0, .int .u64 0, .string (⟨#[]⟩ : ByteArray), .slice none 0 0]) (t := 25) ?hr ?_; (case hd => rfl); (case hg => rfl); (case hr => first | (go_simp; done) | (go_simp; rfl)); intro gb154 hg w29 hbox hb; have n0_ := Aside0.mk (blk_below (g := gb152) (o := .cells #[.int .u8 a0_0, .int .u64 a0_1, .string a0_2, .slice (some ad153) l0_3.length c0_3] 25 (0, 0)) (by (with_reducible repeat (first | refine blk_drewN ?_ _ | refine blk_drew ?_ | refine blk_alloc ?_ _)); exact BK152.out) hb); have n1_ := Aside0.mk (below_step (by repeat (first | (with_reducible first | exact HB.out | apply below_alloc | apply pw_below_drewN | apply below_drew1 | refine below_set ?_ GE152.out) | exact HB.out)) hb); have n2_ := Aside0.mk (hbox); have n3_ := Aside0.mk ((by rw [hg]; exact (below_size (by repeat (first | (with_reducible first | exact HB.out | apply below_alloc | apply pw_below_drewN | apply below_drew1 | refine below_set ?_ GE152.out) | exact HB.out))) : w.heap.size ≤ gb154)); have n4_ := Aside0.mk ((by rw [hg]; exact (below_size (by repeat (first | (with_reducible first | exact HB.out | apply below_alloc | apply pw_below_drewN | apply below_drew1 | refine below_set ?_ GE152.out) | exact HB.out))) : w.heap.size ≤ gb154)); have n5_ := Aside0.mk ((by rw [hg]; exact Nat.ne_of_lt (blk_lt (g := gb152) (o := .cells #[.int .u8 a0_0, .int .u64 a0_1, .string a0_2, .slice (some ad153) l0_3.length c0_3] 25 (0, 0)) (by (with_reducible repeat (first | refine blk_drewN ?_ _ | refine blk_drew ?_ | refine blk_alloc ?_ _)); exact BK152.out)) : gb152 ≠ gb154)); have n6_ := Aside0.mk ((by rw [hg]; exact Nat.ne_of_gt (blk_lt (g := gb152) (o := .cells #[.int .u8 a0_0, .int .u64 a0_1, .string a0_2, .slice (some ad153) l0_3.length c0_3] 25 (0, 0)) (by (with_reducible repeat (first | refine blk_drewN ?_ _ | refine blk_drew ?_ | refine blk_alloc ?_ _)); exact BK152.out)) : gb154 ≠ gb152)); clear BK152; clear HB; have BK152 := n0_; have HB := n1_; have BK154 := n2_; have GW154 := n3_; have GE154 := n4_; have NB152_154 := n5_; have NB154_152 := n6_; clear n0_ n1_ n2_ n3_ n4_ n5_ n6_; clear hb hbox hg; have hnb30 := NB154_152.out; have hnc30 := NB152_154.out; have hcz31_0 : w29.cell? ⟨gb154, 0, none⟩ = some (.int .u8 0) := (blk_cell BK154.out 0).trans rfl; have hcz31_1 : w29.cell? ⟨gb154, 1, none⟩ = some (.int .u64 0) := (blk_cell BK154.out 1).trans rfl; have hcz31_2 : w29.cell? ⟨gb154, 2, none⟩ = some (.string (⟨#[]⟩ : ByteArray)) := (blk_cell BK154.out 2).trans rfl; have hcz31_3 : w29.cell? ⟨gb154, 3, none⟩ = some (.slice none 0 0) := (blk_cell BK154.out 3).trans rfl; have hfz31_0 := blk_frozen BK154.out 0; have hfz31_1 := blk_frozen BK154.out 1; have hfz31_2 := blk_frozen BK154.out 2; have hfz31_3 := blk_frozen BK154.out 3) | ((with_reducible refine gate_callee (f := 9) rfl ?_); refine goesL_ (some 48) rfl rfl Tryd.func9 (by kernel_rfl) rfl #[.agg #[.int .u8 ((rd_T25 l0_3 x43_3).f0), .int .u64 ((rd_T25 l0_3 x43_3).f1), .string ((rd_T25 l0_3 x43_3).f2), .slice A153_3 ((rd_T25 l0_3 x43_3).f3).length c153_3]] rfl (by (try simp only [List.map_toArray, List.map_cons, List.map_nil]); first | done | rfl | (simp only [List.length_drop, List.length_take]; rfl)) ?_; (with_reducible refine (ih k3 (by have := HK1.out; have := HJ2.out; have := HK3.out; omega) ((rd_T25 l0_3 x43_3).f0) ((rd_T25 l0_3 x43_3).f1) ((rd_T25 l0_3 x43_3).f2) _ _ ((rd_T25 l0_3 x43_3).f3) true _ ?side1 ?side2 A27.out).mono ?_); (case side1 => exact Kd.C_below HR153_3.out (by repeat (first | (with_reducible first | exact HB.out | apply below_alloc | apply pw_below_drewN | apply below_drew1 | refine below_set ?_ GE152.out | refine below_set ?_ GE154.out) | exact HB.out))); (case side2 => exact HC153_3.out); rintro e w32 ⟨rfl, hb⟩; refine ⟨_, rfl, ?_⟩; have n0_ := Aside0.mk (blk_below (g := gb152) (o := .cells #[.int .u8 a0_0, .int .u64 a0_1, .string a0_2, .slice (some ad153) l0_3.length c0_3] 25 (0, 0)) (by (with_reducible repeat (first | refine blk_drewN ?_ _ | refine blk_drew ?_ | refine blk_alloc ?_ _)); refine blk_far ?_ NB152_154.out _; (with_reducible repeat (first | refine blk_drewN ?_ _ | refine blk_drew ?_ | refine blk_alloc ?_ _)); refine blk_far ?_ NB152_154.out _; (with_reducible repeat (first | refine blk_drewN ?_ _ | refine blk_drew ?_ | refine blk_alloc ?_ _)); refine blk_far ?_ NB152_154.out _; (with_reducible repeat (first | refine blk_drewN ?_ _ | refine blk_drew ?_ | refine blk_alloc ?_ _)); refine blk_far ?_ NB152_154.out _; (with_reducible repeat (first | refine blk_drewN ?_ _ | refine blk_drew ?_ | refine blk_alloc ?_ _)); exact BK152.out) hb); have n1_ := Aside0.mk (blk_below (g := gb154) (o := .cells #[.int .u8 ((rd_T25 l0_3 x43_3).f0), .int .u64 ((rd_T25 l0_3 x43_3).f1), .string ((rd_T25 l0_3 x43_3).f2), .slice A153_3 ((rd_T25 l0_3 x43_3).f3).length c153_3] 25 (0, 0)) (by (with_reducible repeat (first | refine blk_drewN ?_ _ | refine blk_drew ?_ | refine blk_alloc ?_ _)); refine blk_put (cs := #[.int .u8 ((rd_T25 l0_3 x43_3).f0), .int .u64 ((rd_T25 l0_3 x43_3).f1), .string ((rd_T25 l0_3 x43_3).f2), .slice none 0 0]) ?_ 3 _ rfl; (with_reducible repeat (first | refine blk_drewN ?_ _ | refine blk_drew ?_ | refine blk_alloc ?_ _)); refine blk_put (cs := #[.int .u8 ((rd_T25 l0_3 x43_3).f0), .int .u64 ((rd_T25 l0_3 x43_3).f1), .string (⟨#[]⟩ : ByteArray), .slice none 0 0]) ?_ 2 _ rfl; (with_reducible repeat (first | refine blk_drewN ?_ _ | refine blk_drew ?_ | refine blk_alloc ?_ _)); refine blk_put (cs := #[.int .u8 ((rd_T25 l0_3 x43_3).f0), .int .u64 0, .string (⟨#[]⟩ : ByteArray), .slice none 0 0]) ?_ 1 _ rfl; (with_reducible repeat (first | refine blk_drewN ?_ _ | refine blk_drew ?_ | refine blk_alloc ?_ _)); refine blk_put (cs := #[.int .u8 0, .int .u64 0, .string (⟨#[]⟩ : ByteArray), .slice none 0 0]) ?_ 0 _ rfl; (with_reducible repeat (first | refine blk_drewN ?_ _ | refine blk_drew ?_ | refine blk_alloc ?_ _)); exact BK154.out) hb); have n2_ := Aside0.mk (below_step (by repeat (first | (with_reducible first | exact HB.out | apply below_alloc | apply pw_below_drewN | apply below_drew1 | refine below_set ?_ GE152.out | refine below_set ?_ GE154.out) | exact HB.out)) hb); clear BK152; clear BK154; clear HB; have BK152 := n0_; have BK154 := n1_; have HB := n2_; clear n0_ n1_ n2_; (try clear hb); (try clear hb2); (try clear hk); (try clear hi)))
                        go_roundg k3
                        case measure => have := HK1.out; have := HJ2.out; have := HK3.out; omega
                        case rel => exact ⟨(wrap64 (x43_3 + 1)), (by first | rfl | (simp; done) | (simp [*]; done)), H', ⟨by have := HK1.out; have := HJ2.out; have := HK3.out; omega⟩, ⟨by (with_reducible repeat (first | refine blk_drewN ?_ _ | refine blk_drew ?_ | refine blk_alloc ?_ _)); exact BK152.out⟩, ⟨by repeat (first | (with_reducible first | exact HB.out | apply below_alloc | apply pw_below_drewN | apply below_drew1 | refine below_set ?_ GE152.out | refine below_set ?_ GE154.out) | exact HB.out)⟩⟩
                      · replace c28 := Bool.eq_false_iff.mpr c28
                        subst c28
                        have H1 : (some false) = some r := by rw [if_neg (show ¬ (false = true) by decide)] at H; exact H
                        clear H
                        have H := H1
                        clear H1
                        obtain rfl := Option.some.inj H
                        have p153 : 0 ≤ (x43_3 : Int) := of_decide_eq_true (by first | (with_reducible assumption) | assumption)
                        have q153 : x43_3 < (l0_3.length : Int) := of_decide_eq_true (by first | (with_reducible assumption) | assumption)
                        obtain ⟨ad153, A153_3, c153_3, e153, hx153_0, hx153_1, hx153_2, hx153_3, hl153_3, hi153_3⟩ := at_T25 HR0_3.out x43_3 p153 q153
                        cases e153
                        replace hx153_0 := (HB.out.cell (World.block_lt_of_cell? w _ hx153_0)).trans hx153_0
                        replace hx153_1 := (HB.out.cell (World.block_lt_of_cell? w _ hx153_1)).trans hx153_1
                        replace hx153_2 := (HB.out.cell (World.block_lt_of_cell? w _ hx153_2)).trans hx153_2
                        replace hx153_3 := (HB.out.cell (World.block_lt_of_cell? w _ hx153_3)).trans hx153_3
                        have HR153_3 := Aside0.mk hi153_3
                        have HC153_3 := Aside0.mk hl153_3
                        clear hi153_3 hl153_3
                        replace p153 := eq_true p153
                        replace q153 := eq_true q153
                        go_wp2_with (first | ((with_reducible refine gate_dst (N := 5) rfl ?_); (try (refine gate_guard (by rfl) ?_; dsimp only)); refine box_event ?hg (N := 5) ?hd (cs := #[.int .u8 0, .int .u64 0, .string (⟨#[]⟩ : ByteArray), .slice none 0 0]) (t := 25) ?hr ?_; (case hd => rfl); (case hg => rfl); (case hr => first | (go_simp; done) | (go_simp; rfl)); intro gb154 hg w33 hbox hb; have n0_ := Aside0.mk (blk_below (g := gb152) (o := .cells #[.int .u8 a0_0, .int .u64 a0_1, .string a0_2, .slice (some ad153) l0_3.length c0_3] 25 (0, 0)) (by (with_reducible repeat (first | refine blk_drewN ?_ _ | refine blk_drew ?_ | refine blk_alloc ?_ _)); exact BK152.out) hb); have n1_ := Aside0.mk (below_step (by repeat (first | (with_reducible first | exact HB.out | apply below_alloc | apply pw_below_drewN | apply below_drew1 | refine below_set ?_ GE152.out) | exact HB.out)) hb); have n2_ := Aside0.mk (hbox); have n3_ := Aside0.mk ((by rw [hg]; exact (below_size (by repeat (first | (with_reducible first | exact HB.out | apply below_alloc | apply pw_below_drewN | apply below_drew1 | refine below_set ?_ GE152.out) | exact HB.out))) : w.heap.size ≤ gb154)); have n4_ := Aside0.mk ((by rw [hg]; exact (below_size (by repeat (first | (with_reducible first | exact HB.out | apply below_alloc | apply pw_below_drewN | apply below_drew1 | refine below_set ?_ GE152.out) | exact HB.out))) : w.heap.size ≤ gb154)); have n5_ := Aside0.mk ((by rw [hg]; exact Nat.ne_of_lt (blk_lt (g := gb152) (o := .cells #[.int .u8 a0_0, .int .u64 a0_1, .string a0_2, .slice (some ad153) l0_3.length c0_3] 25 (0, 0)) (by (with_reducible repeat (first | refine blk_drewN ?_ _ | refine blk_drew ?_ | refine blk_alloc ?_ _)); exact BK152.out)) : gb152 ≠ gb154)); have n6_ := Aside0.mk ((by rw [hg]; exact Nat.ne_of_gt (blk_lt (g := gb152) (o := .cells #[.int .u8 a0_0, .int .u64 a0_1, .string a0_2, .slice (some ad153) l0_3.length c0_3] 25 (0, 0)) (by (with_reducible repeat (first | refine blk_drewN ?_ _ | refine blk_drew ?_ | refine blk_alloc ?_ _)); exact BK152.out)) : gb154 ≠ gb152)); clear BK152; clear HB; have BK152 := n0_; have HB := n1_; have BK154 := n2_; have GW154 := n3_; have GE154 := n4_; have NB152_154 := n5_; have NB154_152 := n6_; clear n0_ n1_ n2_ n3_ n4_ n5_ n6_; clear hb hbox hg; have hnb34 := NB154_152.out; have hnc34 := NB152_154.out; have hcz35_0 : w33.cell? ⟨gb154, 0, none⟩ = some (.int .u8 0) := (blk_cell BK154.out 0).trans rfl; have hcz35_1 : w33.cell? ⟨gb154, 1, none⟩ = some (.int .u64 0) := (blk_cell BK154.out 1).trans rfl; have hcz35_2 : w33.cell? ⟨gb154, 2, none⟩ = some (.string (⟨#[]⟩ : ByteArray)) := (blk_cell BK154.out 2).trans rfl; have hcz35_3 : w33.cell? ⟨gb154, 3, none⟩ = some (.slice none 0 0) := (blk_cell BK154.out 3).trans rfl; have hfz35_0 := blk_frozen BK154.out 0; have hfz35_1 := blk_frozen BK154.out 1; have hfz35_2 := blk_frozen BK154.out 2; have hfz35_3 := blk_frozen BK154.out 3) | ((with_reducible refine gate_callee (f := 9) rfl ?_); refine goesL_ (some 48) rfl rfl Tryd.func9 (by kernel_rfl) rfl #[.agg #[.int .u8 ((rd_T25 l0_3 x43_3).f0), .int .u64 ((rd_T25 l0_3 x43_3).f1), .string ((rd_T25 l0_3 x43_3).f2), .slice A153_3 ((rd_T25 l0_3 x43_3).f3).length c153_3]] rfl (by (try simp only [List.map_toArray, List.map_cons, List.map_nil]); first | done | rfl | (simp only [List.length_drop, List.length_take]; rfl)) ?_; (with_reducible refine (ih k3 (by have := HK1.out; have := HJ2.out; have := HK3.out; omega) ((rd_T25 l0_3 x43_3).f0) ((rd_T25 l0_3 x43_3).f1) ((rd_T25 l0_3 x43_3).f2) _ _ ((rd_T25 l0_3 x43_3).f3) false _ ?side1 ?side2 A27.out).mono ?_); (case side1 => exact Kd.C_below HR153_3.out (by repeat (first | (with_reducible first | exact HB.out | apply below_alloc | apply pw_below_drewN | apply below_drew1 | refine below_set ?_ GE152.out | refine below_set ?_ GE154.out) | exact HB.out))); (case side2 => exact HC153_3.out); rintro e w36 ⟨rfl, hb⟩; refine ⟨_, rfl, ?_⟩; have n0_ := Aside0.mk (blk_below (g := gb152) (o := .cells #[.int .u8 a0_0, .int .u64 a0_1, .string a0_2, .slice (some ad153) l0_3.length c0_3] 25 (0, 0)) (by (with_reducible repeat (first | refine blk_drewN ?_ _ | refine blk_drew ?_ | refine blk_alloc ?_ _)); refine blk_far ?_ NB152_154.out _; (with_reducible repeat (first | refine blk_drewN ?_ _ | refine blk_drew ?_ | refine blk_alloc ?_ _)); refine blk_far ?_ NB152_154.out _; (with_reducible repeat (first | refine blk_drewN ?_ _ | refine blk_drew ?_ | refine blk_alloc ?_ _)); refine blk_far ?_ NB152_154.out _; (with_reducible repeat (first | refine blk_drewN ?_ _ | refine blk_drew ?_ | refine blk_alloc ?_ _)); refine blk_far ?_ NB152_154.out _; (with_reducible repeat (first | refine blk_drewN ?_ _ | refine blk_drew ?_ | refine blk_alloc ?_ _)); exact BK152.out) hb); have n1_ := Aside0.mk (blk_below (g := gb154) (o := .cells #[.int .u8 ((rd_T25 l0_3 x43_3).f0), .int .u64 ((rd_T25 l0_3 x43_3).f1), .string ((rd_T25 l0_3 x43_3).f2), .slice A153_3 ((rd_T25 l0_3 x43_3).f3).length c153_3] 25 (0, 0)) (by (with_reducible repeat (first | refine blk_drewN ?_ _ | refine blk_drew ?_ | refine blk_alloc ?_ _)); refine blk_put (cs := #[.int .u8 ((rd_T25 l0_3 x43_3).f0), .int .u64 ((rd_T25 l0_3 x43_3).f1), .string ((rd_T25 l0_3 x43_3).f2), .slice none 0 0]) ?_ 3 _ rfl; (with_reducible repeat (first | refine blk_drewN ?_ _ | refine blk_drew ?_ | refine blk_alloc ?_ _)); refine blk_put (cs := #[.int .u8 ((rd_T25 l0_3 x43_3).f0), .int .u64 ((rd_T25 l0_3 x43_3).f1), .string (⟨#[]⟩ : ByteArray), .slice none 0 0]) ?_ 2 _ rfl; (with_reducible repeat (first | refine blk_drewN ?_ _ | refine blk_drew ?_ | refine blk_alloc ?_ _)); refine blk_put (cs := #[.int .u8 ((rd_T25 l0_3 x43_3).f0), .int .u64 0, .string (⟨#[]⟩ : ByteArray), .slice none 0 0]) ?_ 1 _ rfl; (with_reducible repeat (first | refine blk_drewN ?_ _ | refine blk_drew ?_ | refine blk_alloc ?_ _)); refine blk_put (cs := #[.int .u8 0, .int .u64 0, .string (⟨#[]⟩ : ByteArray), .slice none 0 0]) ?_ 0 _ rfl; (with_reducible repeat (first | refine blk_drewN ?_ _ | refine blk_drew ?_ | refine blk_alloc ?_ _)); exact BK154.out) hb); have n2_ := Aside0.mk (below_step (by repeat (first | (with_reducible first | exact HB.out | apply below_alloc | apply pw_below_drewN | apply below_drew1 | refine below_set ?_ GE152.out | refine below_set ?_ GE154.out) | exact HB.out)) hb); clear BK152; clear BK154; clear HB; have BK152 := n0_; have BK154 := n1_; have HB := n2_; clear n0_ n1_ n2_; (try clear hb); (try clear hb2); (try clear hk); (try clear hi)))
                        go_ret
                        exact ⟨by first | rfl | (simp [errW_none, errW_some] <;> rfl) | (simp [*, errW_none, errW_some] <;> rfl), by repeat (first | (with_reducible first | exact HB.out | apply below_alloc | apply pw_below_drewN | apply below_drew1 | refine below_set ?_ GE152.out | refine below_set ?_ GE154.out) | exact HB.out)⟩
                    · rw [if_neg c26] at H
                      exact absurd H (by simp)
                  · rw [if_neg c25] at H
                    exact absurd H (by simp)
                · rw [if_neg c24] at H
                  have c24b0 : decide (x43_3 < (l0_3.length : Int)) = false := decide_eq_false c24
                  clear c24
                  obtain rfl := Option.some.inj H
                  go_wp2
                  go_ret
                  exact ⟨by first | rfl | (simp [errW_none, errW_some] <;> rfl) | (simp [*, errW_none, errW_some] <;> rfl), by repeat (first | (with_reducible first | exact HB.out | apply below_alloc | apply pw_below_drewN | apply below_drew1 | refine below_set ?_ GE152.out) | exact HB.out)⟩
def spec_SigsOf.l0 : Nat → ByteArray → List (S25) → Int → Int → Option (ByteArray)
  | 0, _, _, _, _ => none
  | k + 1, x3, x6, x7, x8 => if x8 < x7 then (if 0 ≤ x8 then (if x8 < (x6.length : Int) then ((spec_SigOf.f k ((rd_T25 x6 x8).f0) ((rd_T25 x6 x8).f1) ((rd_T25 x6 x8).f2) ((rd_T25 x6 x8).f3)).bind fun t158 => (if x3.size + t158.size ≤ 9223372036854775807 then (spec_SigsOf.l0 k (x3 ++ t158) x6 x7 (wrap64 (x8 + 1))) else (none))) else (none)) else (none)) else (some x3)
def spec_SigsOf.f (k : Nat) (l0 : List (S25)) : Option (ByteArray) := spec_SigsOf.l0 k (⟨#[]⟩ : ByteArray) l0 (l0.length : Int) 0
set_option maxHeartbeats 8000000 in
set_option maxRecDepth 100000 in
theorem spec_SigsOf.calls (k : Nat) (A0 : Option Addr) (c0 : Nat) (l0 : List (S25)) (r : ByteArray) (w : World) (hr0 : Kd.C k25 w A0 l0.length l0) (hc0 : l0.length ≤ c0) (h : spec_SigsOf.f k l0 = some r) :
    Calls Tryd.prog 16 #[.slice A0 l0.length c0] w fun e w' => e = .returned (.string r) ∧ Below w.heap.size w w' := by
  have hu25 := Tryd.underlying25
  have HR0 := Aside0.mk hr0
  have HC0 := Aside0.mk hc0
  clear hr0 hc0
  have HB := Aside0.mk (Below.refl w.heap.size w)
  have H : (spec_SigsOf.l0 k (⟨#[]⟩ : ByteArray) l0 (l0.length : Int) 0) = some r := h
  clear h
  have H' := Aside0.mk H
  clear H
  go_enter Tryd.func16, Tryd.ntmps16
  go_wp2
  go_loopg [3, 8] k (fun kq v3 v8 w' => ∃ (x3_1 : ByteArray) (x8_1 : Int), v3 = .string x3_1 ∧ v8 = .int .i64 x8_1 ∧ Aside0 (spec_SigsOf.l0 kq x3_1 l0 (l0.length : Int) x8_1 = some r) ∧ Aside0 (kq ≤ k) ∧ Aside0 (Below w.heap.size w w'))
  case atStart => exact ⟨((⟨#[]⟩ : ByteArray)), (0), (by first | rfl | (simp; done) | (simp [*]; done)), (by first | rfl | (simp; done) | (simp [*]; done)), H', ⟨Nat.le_refl _⟩, ⟨by repeat (first | (with_reducible first | exact HB.out | apply below_alloc | apply pw_below_drewN | apply below_drew1) | exact HB.out)⟩⟩
  case round =>
    clear H'
    try clear c1
    obtain ⟨x3_1, x8_1, rfl, rfl, HA, HK1, HB⟩ := hrel
    cases gk with
    | zero => exact absurd HA.out (by simp [spec_SigsOf.l0])
    | succ k1 =>
      have H := HA.out
      clear HA
      simp only [spec_SigsOf.l0] at H
      by_cases c2 : x8_1 < (l0.length : Int)
      · rw [if_pos c2] at H
        have c2b0 : decide (x8_1 < (l0.length : Int)) = true := decide_eq_true c2
        clear c2
        by_cases c3 : 0 ≤ x8_1
        · rw [if_pos c3] at H
          have c3b0 : decide (0 ≤ x8_1) = true := decide_eq_true c3
          clear c3
          by_cases c4 : x8_1 < (l0.length : Int)
          · rw [if_pos c4] at H
            have c4b0 : decide (x8_1 < (l0.length : Int)) = true := decide_eq_true c4
            clear c4
            replace H := Option.bind_eq_some_iff.mp H
            obtain ⟨t158, A50, H⟩ := H
            replace H : (if x3_1.size + t158.size ≤ 9223372036854775807 then (spec_SigsOf.l0 k1 (x3_1 ++ t158) l0 (l0.length : Int) (wrap64 (x8_1 + 1))) else (none)) = some r := H
            have A5 := Aside0.mk A50
            clear A50
            by_cases c6 : x3_1.size + t158.size ≤ 9223372036854775807
            · rw [if_pos c6] at H
              have c6b0 := eq_true c6
              have c6b1 : decide (x3_1.size + t158.size ≤ 9223372036854775807) = true := decide_eq_true c6
              try have c6b2 : (9223372036854775807 < x3_1.size + t158.size) = False := eq_false (Nat.not_lt.2 c6)
              have H' := Aside0.mk H
              clear H
              have p156 : 0 ≤ (x8_1 : Int) := of_decide_eq_true (by first | (with_reducible assumption) | assumption)
              have q156 : x8_1 < (l0.length : Int) := of_decide_eq_true (by first | (with_reducible assumption) | assumption)
              obtain ⟨ad156, A156_3, c156_3, e156, hx156_0, hx156_1, hx156_2, hx156_3, hl156_3, hi156_3⟩ := at_T25 HR0.out x8_1 p156 q156
              cases e156
              replace hx156_0 := (HB.out.cell (World.block_lt_of_cell? w _ hx156_0)).trans hx156_0
              replace hx156_1 := (HB.out.cell (World.block_lt_of_cell? w _ hx156_1)).trans hx156_1
              replace hx156_2 := (HB.out.cell (World.block_lt_of_cell? w _ hx156_2)).trans hx156_2
              replace hx156_3 := (HB.out.cell (World.block_lt_of_cell? w _ hx156_3)).trans hx156_3
              have HR156_3 := Aside0.mk hi156_3
              have HC156_3 := Aside0.mk hl156_3
              clear hi156_3 hl156_3
              replace p156 := eq_true p156
              replace q156 := eq_true q156
              go_wp2_with (first | ((with_reducible refine gate_dst (N := 5) rfl ?_); refine box_event ?hg (N := 5) ?hd (cs := #[.int .u8 0, .int .u64 0, .string (⟨#[]⟩ : ByteArray), .slice none 0 0]) (t := 25) ?hr ?_; (case hd => rfl); (case hg => rfl); (case hr => first | (go_simp; done) | (go_simp; rfl)); intro gb157 hg w7 hbox hb; have n0_ := Aside0.mk (below_step (by repeat (first | (with_reducible first | exact HB.out | apply below_alloc | apply pw_below_drewN | apply below_drew1) | exact HB.out)) hb); have n1_ := Aside0.mk (hbox); have n2_ := Aside0.mk ((by rw [hg]; exact (below_size (by repeat (first | (with_reducible first | exact HB.out | apply below_alloc | apply pw_below_drewN | apply below_drew1) | exact HB.out))) : w.heap.size ≤ gb157)); have n3_ := Aside0.mk ((by rw [hg]; exact (below_size (by repeat (first | (with_reducible first | exact HB.out | apply below_alloc | apply pw_below_drewN | apply below_drew1) | exact HB.out))) : w.heap.size ≤ gb157)); clear HB; have HB := n0_; have BK157 := n1_; have GW157 := n2_; have GE157 := n3_; clear n0_ n1_ n2_ n3_; clear hb hbox hg; have hcz8_0 : w7.cell? ⟨gb157, 0, none⟩ = some (.int .u8 0) := (blk_cell BK157.out 0).trans rfl; have hcz8_1 : w7.cell? ⟨gb157, 1, none⟩ = some (.int .u64 0) := (blk_cell BK157.out 1).trans rfl; have hcz8_2 : w7.cell? ⟨gb157, 2, none⟩ = some (.string (⟨#[]⟩ : ByteArray)) := (blk_cell BK157.out 2).trans rfl; have hcz8_3 : w7.cell? ⟨gb157, 3, none⟩ = some (.slice none 0 0) := (blk_cell BK157.out 3).trans rfl; have hfz8_0 := blk_frozen BK157.out 0; have hfz8_1 := blk_frozen BK157.out 1; have hfz8_2 := blk_frozen BK157.out 2; have hfz8_3 := blk_frozen BK157.out 3) | ((with_reducible refine gate_callee (f := 14) rfl ?_); refine goesL_ (some 14) rfl rfl Tryd.func14 (by kernel_rfl) rfl #[.agg #[.int .u8 ((rd_T25 l0 x8_1).f0), .int .u64 ((rd_T25 l0 x8_1).f1), .string ((rd_T25 l0 x8_1).f2), .slice A156_3 ((rd_T25 l0 x8_1).f3).length c156_3]] rfl (by (try simp only [List.map_toArray, List.map_cons, List.map_nil]); first | done | rfl | (simp only [List.length_drop, List.length_take]; rfl)) ?_; (with_reducible refine (spec_SigOf.calls k1 ((rd_T25 l0 x8_1).f0) ((rd_T25 l0 x8_1).f1) ((rd_T25 l0 x8_1).f2) _ _ ((rd_T25 l0 x8_1).f3) t158 _ ?side1 ?side2 A5.out).mono ?_); (case side1 => exact Kd.C_below HR156_3.out (by repeat (first | (with_reducible first | exact HB.out | apply below_alloc | apply pw_below_drewN | apply below_drew1 | refine below_set ?_ GE157.out) | exact HB.out))); (case side2 => exact HC156_3.out); rintro e w9 ⟨rfl, hb⟩; refine ⟨_, rfl, ?_⟩; have n0_ := Aside0.mk (blk_below (g := gb157) (o := .cells #[.int .u8 ((rd_T25 l0 x8_1).f0), .int .u64 ((rd_T25 l0 x8_1).f1), .string ((rd_T25 l0 x8_1).f2), .slice A156_3 ((rd_T25 l0 x8_1).f3).length c156_3] 25 (0, 0)) (by (with_reducible repeat (first | refine blk_drewN ?_ _ | refine blk_drew ?_ | refine blk_alloc ?_ _)); refine blk_put (cs := #[.int .u8 ((rd_T25 l0 x8_1).f0), .int .u64 ((rd_T25 l0 x8_1).f1), .string ((rd_T25 l0 x8_1).f2), .slice none 0 0]) ?_ 3 _ rfl; (with_reducible repeat (first | refine blk_drewN ?_ _ | refine blk_drew ?_ | refine blk_alloc ?_ _)); refine blk_put (cs := #[.int .u8 ((rd_T25 l0 x8_1).f0), .int .u64 ((rd_T25 l0 x8_1).f1), .string (⟨#[]⟩ : ByteArray), .slice none 0 0]) ?_ 2 _ rfl; (with_reducible repeat (first | refine blk_drewN ?_ _ | refine blk_drew ?_ | refine blk_alloc ?_ _)); refine blk_put (cs := #[.int .u8 ((rd_T25 l0 x8_1).f0), .int .u64 0, .string (⟨#[]⟩ : ByteArray), .slice none 0 0]) ?_ 1 _ rfl; (with_reducible repeat (first | refine blk_drewN ?_ _ | refine blk_drew ?_ | refine blk_alloc ?_ _)); refine blk_put (cs := #[.int .u8 0, .int .u64 0, .string (⟨#[]⟩ : ByteArray), .slice none 0 0]) ?_ 0 _ rfl; (with_reducible repeat (first | refine blk_drewN ?_ _ | refine blk_drew ?_ | refine blk_alloc ?_ _)); exact BK157.out) hb); have n1_ := Aside0.mk (below_step (by repeat (first | (with_reducible first | exact HB.out | apply below_alloc | apply pw_below_drewN | apply below_drew1 | refine below_set ?_ GE157.out) | exact HB.out)) hb); clear BK157; clear HB; have BK157 := n0_; have HB := n1_; clear n0_ n1_; (try clear hb); (try clear hb2); (try clear hk); (try clear hi)))
              go_roundg k1
              case measure => have := HK1.out; omega
              case rel => exact ⟨(x3_1 ++ t158), (wrap64 (x8_1 + 1)), (by first | rfl | (simp; done) | (simp [*]; done)), (by first | rfl | (simp; done) | (simp [*]; done)), H', ⟨by have := HK1.out; omega⟩, ⟨by repeat (first | (with_reducible first | exact HB.out | apply below_alloc | apply pw_below_drewN | apply below_drew1 | refine below_set ?_ GE157.out) | exact HB.out)⟩⟩
            · rw [if_neg c6] at H
              exact absurd H (by simp)
          · rw [if_neg c4] at H
            exact absurd H (by simp)
        · rw [if_neg c3] at H
          exact absurd H (by simp)
      · rw [if_neg c2] at H
        have c2b0 : decide (x8_1 < (l0.length : Int)) = false := decide_eq_false c2
        clear c2
        obtain rfl := Option.some.inj H
        go_wp2
        go_ret
        exact ⟨by first | rfl | (simp [errW_none, errW_some] <;> rfl) | (simp [*, errW_none, errW_some] <;> rfl), by repeat (first | (with_reducible first | exact HB.out | apply below_alloc | apply pw_below_drewN | apply below_drew1) | exact HB.out)⟩
def IsS61 (w0 W : World) (g : Nat) (f0 : Int) (f1 : Int) (f2 : Int) : Prop := W.heap[g]? = some (.cells #[.int .i64 f0, .int .i64 f1, .int .i64 f2] 61 (0, 0)) ∧ w0.heap.size ≤ g
theorem IsS61.grown {w0 W : World} {g : Nat} {f0 : Int} {f1 : Int} {f2 : Int} {W1 : World} {row : Option Nat} (h : IsS61 w0 W g f0 f1 f2) (hw : W.grownBy W1 row) (hne : some g ≠ row) : IsS61 w0 W1 g f0 f1 f2 := by
  obtain ⟨hb, hg⟩ := h
  exact ⟨blk_grown hb hw hne, hg⟩
theorem IsS61.fresh {w0 W : World} {g : Nat} {f0 : Int} {f1 : Int} {f2 : Int} (h : IsS61 w0 W g f0 f1 f2) : ∀ k, W.heap.size ≤ k → k ≠ g := by
  obtain ⟨hb, hg⟩ := h
  exact Kd.freshB hb
theorem IsS61.kept {w0 W : World} {g : Nat} {f0 : Int} {f1 : Int} {f2 : Int} {W1 : World} {S : Nat → Prop} (h : IsS61 w0 W g f0 f1 f2) (hk : Kept W W1 S) (hne : ¬ S g) : IsS61 w0 W1 g f0 f1 f2 := by
  obtain ⟨hb, hg⟩ := h
  exact ⟨blk_kept hb hk hne, hg⟩
theorem IsS61.below {w0 W : World} {g : Nat} {f0 : Int} {f1 : Int} {f2 : Int} {W1 : World} (h : IsS61 w0 W g f0 f1 f2) (hw : Below W.heap.size W W1) : IsS61 w0 W1 g f0 f1 f2 := h.grown (grown_of_below hw none) (by simp)
theorem IsS61.alloc {w0 W : World} {g : Nat} {f0 : Int} {f1 : Int} {f2 : Int} (h : IsS61 w0 W g f0 f1 f2) (o : Obj) : IsS61 w0 (W.alloc o) g f0 f1 f2 := h.below (below_alloc (Below.refl _ _) o)
theorem IsS61.drewN {w0 W : World} {g : Nat} {f0 : Int} {f1 : Int} {f2 : Int} (h : IsS61 w0 W g f0 f1 f2) (m : Nat) : IsS61 w0 (W.drewN m) g f0 f1 f2 := h
theorem IsS61.drew {w0 W : World} {g : Nat} {f0 : Int} {f1 : Int} {f2 : Int} (h : IsS61 w0 W g f0 f1 f2) : IsS61 w0 W.drew g f0 f1 f2 := h
theorem IsS61.at_ {w0 W : World} {g : Nat} {f0 : Int} {f1 : Int} {f2 : Int} {w' : World} {m : Nat} (hq : W.drewN m = w') (h : IsS61 w0 W g f0 f1 f2) : IsS61 w0 w' g f0 f1 f2 := by subst hq; exact IsS61.drewN h m
theorem IsS61.apart {w0 W : World} {g : Nat} {f0 : Int} {f1 : Int} {f2 : Int} {α : Type} {d : Kd α} {e : Nat} {base : Nat} {ok : Nat → Prop} {v : Value} {xs : List α} (h : IsS61 w0 W g f0 f1 f2) (ho : d.R e W base ok v xs) (ht : ∀ q, q ∈ e :: d.E → q ≠ 61) : d.R e W base (fun k => ok k ∧ k ≠ g) v xs := by
  obtain ⟨hb, hg⟩ := h
  exact Kd.R_types ho hb ht
theorem IsS61.own_ne {w0 W : World} {g : Nat} {f0 : Int} {f1 : Int} {f2 : Int} {α : Type} {d : Kd α} {e : Nat} {base : Nat} {ok : Nat → Prop} {v : Value} {xs : List α} (h : IsS61 w0 W g f0 f1 f2) (ho : d.R e W base ok v xs) (ht : e ≠ 61) : some g ≠ v.ownBlock := by
  obtain ⟨hb, hg⟩ := h
  exact Kd.R_ne ho hb ht
theorem IsS61.lt {w0 W : World} {g : Nat} {f0 : Int} {f1 : Int} {f2 : Int} (h : IsS61 w0 W g f0 f1 f2) : g < W.heap.size := by
  obtain ⟨hb, hg⟩ := h
  exact blk_lt hb
theorem IsS61.far {w0 W : World} {g : Nat} {f0 : Int} {f1 : Int} {f2 : Int} {p : Addr} (h : IsS61 w0 W g f0 f1 f2) (hne : g ≠ p.block) (u : Value) : IsS61 w0 (W.setCell p u) g f0 f1 f2 := by
  obtain ⟨hb, hg⟩ := h
  exact ⟨blk_far hb hne u, hg⟩
theorem IsS61.new (w0 W : World) (f0 : Int) (f1 : Int) (f2 : Int) (hB : Below w0.heap.size w0 W) : IsS61 w0 (W.alloc (.cells #[.int .i64 f0, .int .i64 f1, .int .i64 f2] 61)) W.heap.size f0 f1 f2 := ⟨by simpa using heap_alloc_new W _, hB.size⟩
end Go.Proofs.YtnojjfklnihmnaaDoor.PFnSgOfParts

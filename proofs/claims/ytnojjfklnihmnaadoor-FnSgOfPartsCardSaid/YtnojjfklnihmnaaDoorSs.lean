/- Part of the proof of LawFnSgOfParts. -/
import Derived.Test.YtnojjfklnihmnaaDoorTl
set_option linter.unusedVariables false
set_option linter.unusedSimpArgs false
namespace Go.Proofs.YtnojjfklnihmnaaDoor.PSp
open Go.RowKit Go.Proofs.YtnojjfklnihmnaaDoorW.PrintWords Go.Proofs.YtnojjfklnihmnaaDoorW.PrintLast Go.Proofs.YtnojjfklnihmnaaDoorW.PrintMore Go.Proofs.YtnojjfklnihmnaaDoor.PFnSgOfParts
attribute [local go_sem] max2_int min2_int max_two min_two max_three min_three max_four min_four
set_option linter.unusedVariables false
set_option linter.unusedSimpArgs false
def spec_TidyAll.l0 (G : Int → Int → ByteArray → List S25 → Option Bool) : Nat → List (S25) → List (S25) → Int → Int → Option (Bool)
  | 0, _, _, _, _ => none
  | k + 1, x0, x5, x6, x7 => if x7 < x6 then (if 0 ≤ x7 then (if x7 < (x5.length : Int) then ((G ((rd_T25 x5 x7).f0) ((rd_T25 x5 x7).f1) ((rd_T25 x5 x7).f2) ((rd_T25 x5 x7).f3)).bind fun t134 => (if t134 = true then (spec_TidyAll.l0 G k x0 x5 x6 (wrap64 (x7 + 1))) else (some false))) else (none)) else (none)) else ((spec_SigsOf.f k x0).bind fun t135 => ((spec_Valid.f k t135).bind fun t136 => (some t136)))
def spec_TidyAll.f (G : Int → Int → ByteArray → List S25 → Option Bool) (k : Nat) (l0 : List (S25)) : Option (Bool) := spec_TidyAll.l0 G k l0 l0 (l0.length : Int) 0
set_option maxHeartbeats 8000000 in
set_option maxRecDepth 100000 in
theorem spec_TidyAll.calls (G : Int → Int → ByteArray → List S25 → Option Bool) (hTdy : ∀ (a0 a1 : Int) (a2 : ByteArray) (A : Option Addr) (c : Nat) (l : List S25) (r : Bool) (w : World), Given.Tabs w → Kd.C k25 w A l.length l → l.length ≤ c → G a0 a1 a2 l = some r → Calls Tryd.prog 8 #[.agg #[.int .u8 a0, .int .u64 a1, .string a2, .slice A l.length c]] w fun e w' => e = .returned (.bool r) ∧ Below w.heap.size w w') (k : Nat) (A0 : Option Addr) (c0 : Nat) (l0 : List (S25)) (r : Bool) (w : World) (hG : Given.Tabs w) (hr0 : Kd.C k25 w A0 l0.length l0) (hc0 : l0.length ≤ c0) (h : spec_TidyAll.f G k l0 = some r) :
    Calls Tryd.prog 10 #[.slice A0 l0.length c0] w fun e w' => e = .returned (.bool r) ∧ Below w.heap.size w w' := by
  have HG := Aside0.mk hG
  clear hG
  have hu25 := Tryd.underlying25
  have HR0 := Aside0.mk hr0
  have HC0 := Aside0.mk hc0
  clear hr0 hc0
  have HB := Aside0.mk (Below.refl w.heap.size w)
  have H : (spec_TidyAll.l0 G k l0 l0 (l0.length : Int) 0) = some r := h
  clear h
  have H' := Aside0.mk H
  clear H
  go_enter Tryd.func10, Tryd.ntmps10
  go_wp2
  go_loopg [7] k (fun kq v7 w' => ∃ (x7_1 : Int), v7 = .int .i64 x7_1 ∧ Aside0 (spec_TidyAll.l0 G kq l0 l0 (l0.length : Int) x7_1 = some r) ∧ Aside0 (kq ≤ k) ∧ Aside0 (Below w.heap.size w w'))
  case atStart => exact ⟨(0), (by first | rfl | (simp; done) | (simp [*]; done)), H', ⟨Nat.le_refl _⟩, ⟨by repeat (first | (with_reducible first | exact HB.out | apply below_alloc | apply pw_below_drewN | apply below_drew1) | exact HB.out)⟩⟩
  case round =>
    clear H'
    try clear c1
    obtain ⟨x7_1, rfl, HA, HK1, HB⟩ := hrel
    cases gk with
    | zero => exact absurd HA.out (by simp [spec_TidyAll.l0])
    | succ k1 =>
      have H := HA.out
      clear HA
      simp only [spec_TidyAll.l0] at H
      by_cases c2 : x7_1 < (l0.length : Int)
      · rw [if_pos c2] at H
        have c2b0 : decide (x7_1 < (l0.length : Int)) = true := decide_eq_true c2
        clear c2
        by_cases c3 : 0 ≤ x7_1
        · rw [if_pos c3] at H
          have c3b0 : decide (0 ≤ x7_1) = true := decide_eq_true c3
          clear c3
          by_cases c4 : x7_1 < (l0.length : Int)
          · rw [if_pos c4] at H
            have c4b0 : decide (x7_1 < (l0.length : Int)) = true := decide_eq_true c4
            clear c4
            replace H := Option.bind_eq_some_iff.mp H
            obtain ⟨t134, A50, H⟩ := H
            replace H : (if t134 = true then (spec_TidyAll.l0 G k1 l0 l0 (l0.length : Int) (wrap64 (x7_1 + 1))) else (some false)) = some r := H
            have A5 := Aside0.mk A50
            clear A50
            by_cases c6 : t134 = true
            · subst c6
              have H1 : (spec_TidyAll.l0 G k1 l0 l0 (l0.length : Int) (wrap64 (x7_1 + 1))) = some r := by rw [if_pos rfl] at H; exact H
              clear H
              have H := H1
              clear H1
              have H' := Aside0.mk H
              clear H
              have p132 : 0 ≤ (x7_1 : Int) := of_decide_eq_true (by first | (with_reducible assumption) | assumption)
              have q132 : x7_1 < (l0.length : Int) := of_decide_eq_true (by first | (with_reducible assumption) | assumption)
              obtain ⟨ad132, A132_3, c132_3, e132, hx132_0, hx132_1, hx132_2, hx132_3, hl132_3, hi132_3⟩ := at_T25 HR0.out x7_1 p132 q132
              cases e132
              replace hx132_0 := (HB.out.cell (World.block_lt_of_cell? w _ hx132_0)).trans hx132_0
              replace hx132_1 := (HB.out.cell (World.block_lt_of_cell? w _ hx132_1)).trans hx132_1
              replace hx132_2 := (HB.out.cell (World.block_lt_of_cell? w _ hx132_2)).trans hx132_2
              replace hx132_3 := (HB.out.cell (World.block_lt_of_cell? w _ hx132_3)).trans hx132_3
              have HR132_3 := Aside0.mk hi132_3
              have HC132_3 := Aside0.mk hl132_3
              clear hi132_3 hl132_3
              replace p132 := eq_true p132
              replace q132 := eq_true q132
              go_wp2_with (first | ((with_reducible refine gate_dst (N := 4) rfl ?_); refine box_event ?hg (N := 4) ?hd (cs := #[.int .u8 0, .int .u64 0, .string (⟨#[]⟩ : ByteArray), .slice none 0 0]) (t := 25) ?hr ?_; (case hd => rfl); (case hg => rfl); (case hr => first | (go_simp; done) | (go_simp; rfl)); intro gb133 hg w7 hbox hb; have n0_ := Aside0.mk (below_step (by repeat (first | (with_reducible first | exact HB.out | apply below_alloc | apply pw_below_drewN | apply below_drew1) | exact HB.out)) hb); have n1_ := Aside0.mk (hbox); have n2_ := Aside0.mk ((by rw [hg]; exact (below_size (by repeat (first | (with_reducible first | exact HB.out | apply below_alloc | apply pw_below_drewN | apply below_drew1) | exact HB.out))) : w.heap.size ≤ gb133)); have n3_ := Aside0.mk ((by rw [hg]; exact (below_size (by repeat (first | (with_reducible first | exact HB.out | apply below_alloc | apply pw_below_drewN | apply below_drew1) | exact HB.out))) : w.heap.size ≤ gb133)); clear HB; have HB := n0_; have BK133 := n1_; have GW133 := n2_; have GE133 := n3_; clear n0_ n1_ n2_ n3_; clear hb hbox hg; have hcz8_0 : w7.cell? ⟨gb133, 0, none⟩ = some (.int .u8 0) := (blk_cell BK133.out 0).trans rfl; have hcz8_1 : w7.cell? ⟨gb133, 1, none⟩ = some (.int .u64 0) := (blk_cell BK133.out 1).trans rfl; have hcz8_2 : w7.cell? ⟨gb133, 2, none⟩ = some (.string (⟨#[]⟩ : ByteArray)) := (blk_cell BK133.out 2).trans rfl; have hcz8_3 : w7.cell? ⟨gb133, 3, none⟩ = some (.slice none 0 0) := (blk_cell BK133.out 3).trans rfl; have hfz8_0 := blk_frozen BK133.out 0; have hfz8_1 := blk_frozen BK133.out 1; have hfz8_2 := blk_frozen BK133.out 2; have hfz8_3 := blk_frozen BK133.out 3) | ((with_reducible refine gate_callee (f := 8) rfl ?_); refine goesL_ (some 12) rfl rfl Tryd.func8 (by kernel_rfl) rfl #[.agg #[.int .u8 ((rd_T25 l0 x7_1).f0), .int .u64 ((rd_T25 l0 x7_1).f1), .string ((rd_T25 l0 x7_1).f2), .slice A132_3 ((rd_T25 l0 x7_1).f3).length c132_3]] rfl (by (try simp only [List.map_toArray, List.map_cons, List.map_nil]); first | done | rfl | (simp only [List.length_drop, List.length_take]; rfl)) ?_; (with_reducible refine (hTdy ((rd_T25 l0 x7_1).f0) ((rd_T25 l0 x7_1).f1) ((rd_T25 l0 x7_1).f2) _ _ ((rd_T25 l0 x7_1).f3) true _ (Given.Tabs.below HG.out (by repeat (first | (with_reducible first | exact HB.out | apply below_alloc | apply pw_below_drewN | apply below_drew1 | refine below_set ?_ GE133.out) | exact HB.out)) (Nat.le_refl _)) ?side1 ?side2 A5.out).mono ?_); (case side1 => exact Kd.C_below HR132_3.out (by repeat (first | (with_reducible first | exact HB.out | apply below_alloc | apply pw_below_drewN | apply below_drew1 | refine below_set ?_ GE133.out) | exact HB.out))); (case side2 => exact HC132_3.out); rintro e w9 ⟨rfl, hb⟩; refine ⟨_, rfl, ?_⟩; have n0_ := Aside0.mk (blk_below (g := gb133) (o := .cells #[.int .u8 ((rd_T25 l0 x7_1).f0), .int .u64 ((rd_T25 l0 x7_1).f1), .string ((rd_T25 l0 x7_1).f2), .slice A132_3 ((rd_T25 l0 x7_1).f3).length c132_3] 25 (0, 0)) (by (with_reducible repeat (first | refine blk_drewN ?_ _ | refine blk_drew ?_ | refine blk_alloc ?_ _)); refine blk_put (cs := #[.int .u8 ((rd_T25 l0 x7_1).f0), .int .u64 ((rd_T25 l0 x7_1).f1), .string ((rd_T25 l0 x7_1).f2), .slice none 0 0]) ?_ 3 _ rfl; (with_reducible repeat (first | refine blk_drewN ?_ _ | refine blk_drew ?_ | refine blk_alloc ?_ _)); refine blk_put (cs := #[.int .u8 ((rd_T25 l0 x7_1).f0), .int .u64 ((rd_T25 l0 x7_1).f1), .string (⟨#[]⟩ : ByteArray), .slice none 0 0]) ?_ 2 _ rfl; (with_reducible repeat (first | refine blk_drewN ?_ _ | refine blk_drew ?_ | refine blk_alloc ?_ _)); refine blk_put (cs := #[.int .u8 ((rd_T25 l0 x7_1).f0), .int .u64 0, .string (⟨#[]⟩ : ByteArray), .slice none 0 0]) ?_ 1 _ rfl; (with_reducible repeat (first | refine blk_drewN ?_ _ | refine blk_drew ?_ | refine blk_alloc ?_ _)); refine blk_put (cs := #[.int .u8 0, .int .u64 0, .string (⟨#[]⟩ : ByteArray), .slice none 0 0]) ?_ 0 _ rfl; (with_reducible repeat (first | refine blk_drewN ?_ _ | refine blk_drew ?_ | refine blk_alloc ?_ _)); exact BK133.out) hb); have n1_ := Aside0.mk (below_step (by repeat (first | (with_reducible first | exact HB.out | apply below_alloc | apply pw_below_drewN | apply below_drew1 | refine below_set ?_ GE133.out) | exact HB.out)) hb); clear BK133; clear HB; have BK133 := n0_; have HB := n1_; clear n0_ n1_; (try clear hb); (try clear hb2); (try clear hk); (try clear hi)))
              go_roundg k1
              case measure => have := HK1.out; omega
              case rel => exact ⟨(wrap64 (x7_1 + 1)), (by first | rfl | (simp; done) | (simp [*]; done)), H', ⟨by have := HK1.out; omega⟩, ⟨by repeat (first | (with_reducible first | exact HB.out | apply below_alloc | apply pw_below_drewN | apply below_drew1 | refine below_set ?_ GE133.out) | exact HB.out)⟩⟩
            · replace c6 := Bool.eq_false_iff.mpr c6
              subst c6
              have H1 : (some false) = some r := by rw [if_neg (show ¬ (false = true) by decide)] at H; exact H
              clear H
              have H := H1
              clear H1
              obtain rfl := Option.some.inj H
              have p132 : 0 ≤ (x7_1 : Int) := of_decide_eq_true (by first | (with_reducible assumption) | assumption)
              have q132 : x7_1 < (l0.length : Int) := of_decide_eq_true (by first | (with_reducible assumption) | assumption)
              obtain ⟨ad132, A132_3, c132_3, e132, hx132_0, hx132_1, hx132_2, hx132_3, hl132_3, hi132_3⟩ := at_T25 HR0.out x7_1 p132 q132
              cases e132
              replace hx132_0 := (HB.out.cell (World.block_lt_of_cell? w _ hx132_0)).trans hx132_0
              replace hx132_1 := (HB.out.cell (World.block_lt_of_cell? w _ hx132_1)).trans hx132_1
              replace hx132_2 := (HB.out.cell (World.block_lt_of_cell? w _ hx132_2)).trans hx132_2
              replace hx132_3 := (HB.out.cell (World.block_lt_of_cell? w _ hx132_3)).trans hx132_3
              have HR132_3 := Aside0.mk hi132_3
              have HC132_3 := Aside0.mk hl132_3
              clear hi132_3 hl132_3
              replace p132 := eq_true p132
              replace q132 := eq_true q132
              go_wp2_with (first | ((with_reducible refine gate_dst (N := 4) rfl ?_); refine box_event ?hg (N := 4) ?hd (cs := #[.int .u8 0, .int .u64 0, .string (⟨#[]⟩ : ByteArray), .slice none 0 0]) (t := 25) ?hr ?_; (case hd => rfl); (case hg => rfl); (case hr => first | (go_simp; done) | (go_simp; rfl)); intro gb133 hg w10 hbox hb; have n0_ := Aside0.mk (below_step (by repeat (first | (with_reducible first | exact HB.out | apply below_alloc | apply pw_below_drewN | apply below_drew1) | exact HB.out)) hb); have n1_ := Aside0.mk (hbox); have n2_ := Aside0.mk ((by rw [hg]; exact (below_size (by repeat (first | (with_reducible first | exact HB.out | apply below_alloc | apply pw_below_drewN | apply below_drew1) | exact HB.out))) : w.heap.size ≤ gb133)); have n3_ := Aside0.mk ((by rw [hg]; exact (below_size (by repeat (first | (with_reducible first | exact HB.out | apply below_alloc | apply pw_below_drewN | apply below_drew1) | exact HB.out))) : w.heap.size ≤ gb133)); clear HB; have HB := n0_; have BK133 := n1_; have GW133 := n2_; have GE133 := n3_; clear n0_ n1_ n2_ n3_; clear hb hbox hg; have hcz11_0 : w10.cell? ⟨gb133, 0, none⟩ = some (.int .u8 0) := (blk_cell BK133.out 0).trans rfl; have hcz11_1 : w10.cell? ⟨gb133, 1, none⟩ = some (.int .u64 0) := (blk_cell BK133.out 1).trans rfl; have hcz11_2 : w10.cell? ⟨gb133, 2, none⟩ = some (.string (⟨#[]⟩ : ByteArray)) := (blk_cell BK133.out 2).trans rfl; have hcz11_3 : w10.cell? ⟨gb133, 3, none⟩ = some (.slice none 0 0) := (blk_cell BK133.out 3).trans rfl; have hfz11_0 := blk_frozen BK133.out 0; have hfz11_1 := blk_frozen BK133.out 1; have hfz11_2 := blk_frozen BK133.out 2; have hfz11_3 := blk_frozen BK133.out 3) | ((with_reducible refine gate_callee (f := 8) rfl ?_); refine goesL_ (some 12) rfl rfl Tryd.func8 (by kernel_rfl) rfl #[.agg #[.int .u8 ((rd_T25 l0 x7_1).f0), .int .u64 ((rd_T25 l0 x7_1).f1), .string ((rd_T25 l0 x7_1).f2), .slice A132_3 ((rd_T25 l0 x7_1).f3).length c132_3]] rfl (by (try simp only [List.map_toArray, List.map_cons, List.map_nil]); first | done | rfl | (simp only [List.length_drop, List.length_take]; rfl)) ?_; (with_reducible refine (hTdy ((rd_T25 l0 x7_1).f0) ((rd_T25 l0 x7_1).f1) ((rd_T25 l0 x7_1).f2) _ _ ((rd_T25 l0 x7_1).f3) false _ (Given.Tabs.below HG.out (by repeat (first | (with_reducible first | exact HB.out | apply below_alloc | apply pw_below_drewN | apply below_drew1 | refine below_set ?_ GE133.out) | exact HB.out)) (Nat.le_refl _)) ?side1 ?side2 A5.out).mono ?_); (case side1 => exact Kd.C_below HR132_3.out (by repeat (first | (with_reducible first | exact HB.out | apply below_alloc | apply pw_below_drewN | apply below_drew1 | refine below_set ?_ GE133.out) | exact HB.out))); (case side2 => exact HC132_3.out); rintro e w12 ⟨rfl, hb⟩; refine ⟨_, rfl, ?_⟩; have n0_ := Aside0.mk (blk_below (g := gb133) (o := .cells #[.int .u8 ((rd_T25 l0 x7_1).f0), .int .u64 ((rd_T25 l0 x7_1).f1), .string ((rd_T25 l0 x7_1).f2), .slice A132_3 ((rd_T25 l0 x7_1).f3).length c132_3] 25 (0, 0)) (by (with_reducible repeat (first | refine blk_drewN ?_ _ | refine blk_drew ?_ | refine blk_alloc ?_ _)); refine blk_put (cs := #[.int .u8 ((rd_T25 l0 x7_1).f0), .int .u64 ((rd_T25 l0 x7_1).f1), .string ((rd_T25 l0 x7_1).f2), .slice none 0 0]) ?_ 3 _ rfl; (with_reducible repeat (first | refine blk_drewN ?_ _ | refine blk_drew ?_ | refine blk_alloc ?_ _)); refine blk_put (cs := #[.int .u8 ((rd_T25 l0 x7_1).f0), .int .u64 ((rd_T25 l0 x7_1).f1), .string (⟨#[]⟩ : ByteArray), .slice none 0 0]) ?_ 2 _ rfl; (with_reducible repeat (first | refine blk_drewN ?_ _ | refine blk_drew ?_ | refine blk_alloc ?_ _)); refine blk_put (cs := #[.int .u8 ((rd_T25 l0 x7_1).f0), .int .u64 0, .string (⟨#[]⟩ : ByteArray), .slice none 0 0]) ?_ 1 _ rfl; (with_reducible repeat (first | refine blk_drewN ?_ _ | refine blk_drew ?_ | refine blk_alloc ?_ _)); refine blk_put (cs := #[.int .u8 0, .int .u64 0, .string (⟨#[]⟩ : ByteArray), .slice none 0 0]) ?_ 0 _ rfl; (with_reducible repeat (first | refine blk_drewN ?_ _ | refine blk_drew ?_ | refine blk_alloc ?_ _)); exact BK133.out) hb); have n1_ := Aside0.mk (below_step (by repeat (first | (with_reducible first | exact HB.out | apply below_alloc | apply pw_below_drewN | apply below_drew1 | refine below_set ?_ GE133.out) | exact HB.out)) hb); clear BK133; clear HB; have BK133 := n0_; have HB := n1_; clear n0_ n1_; (try clear hb); (try clear hb2); (try clear hk); (try clear hi)))
              go_ret
              exact ⟨by first | rfl | (simp [errW_none, errW_some] <;> rfl) | (simp [*, errW_none, errW_some] <;> rfl), by repeat (first | (with_reducible first | exact HB.out | apply below_alloc | apply pw_below_drewN | apply below_drew1 | refine below_set ?_ GE133.out) | exact HB.out)⟩
          · rw [if_neg c4] at H
            exact absurd H (by simp)
        · rw [if_neg c3] at H
          exact absurd H (by simp)
      · rw [if_neg c2] at H
        have c2b0 : decide (x7_1 < (l0.length : Int)) = false := decide_eq_false c2
        clear c2
        replace H := Option.bind_eq_some_iff.mp H
        obtain ⟨t135, A130, H⟩ := H
        replace H : ((spec_Valid.f k1 t135).bind fun t136 => (some t136)) = some r := H
        have A13 := Aside0.mk A130
        clear A130
        replace H := Option.bind_eq_some_iff.mp H
        obtain ⟨t136, A140, H⟩ := H
        replace H : (some t136) = some r := H
        have A14 := Aside0.mk A140
        clear A140
        obtain rfl := Option.some.inj H
        go_wp2_with (first | ((with_reducible refine gate_callee (f := 16) rfl ?_); refine goesL_ (some 16) rfl rfl Tryd.func16 (by kernel_rfl) rfl #[.slice A0 l0.length c0] rfl (by (try simp only [List.map_toArray, List.map_cons, List.map_nil]); first | done | rfl | (simp only [List.length_drop, List.length_take]; rfl)) ?_; (with_reducible refine (spec_SigsOf.calls k1 _ _ l0 t135 _ ?side1 ?side2 A13.out).mono ?_); (case side1 => repeat (first | exact (Kd.C_below HR0.out HB.out) | (with_reducible refine Kd.C_alloc ?_ _) | (with_reducible refine Kd.C_drewN ?_ _) | (with_reducible refine Kd.C_drew ?_))); (case side2 => exact HC0.out); rintro e w15 ⟨rfl, hb⟩; refine ⟨_, rfl, ?_⟩; have n0_ := Aside0.mk (below_step (by repeat (first | (with_reducible first | exact HB.out | apply below_alloc | apply pw_below_drewN | apply below_drew1) | exact HB.out)) hb); clear HB; have HB := n0_; clear n0_; (try clear hb); (try clear hb2); (try clear hk); (try clear hi)) | ((with_reducible refine gate_callee (f := 13) rfl ?_); refine goesL_ (some 17) rfl rfl Tryd.func13 (by kernel_rfl) rfl #[.string t135] rfl (by (try simp only [List.map_toArray, List.map_cons, List.map_nil]); first | done | rfl | (simp only [List.length_drop, List.length_take]; rfl)) ?_; (with_reducible refine (spec_Valid.calls k1 t135 t136 _ A14.out).mono ?_); rintro e w16 ⟨rfl, hb⟩; refine ⟨_, rfl, ?_⟩; have n0_ := Aside0.mk (below_step (by repeat (first | (with_reducible first | exact HB.out | apply below_alloc | apply pw_below_drewN | apply below_drew1) | exact HB.out)) hb); clear HB; have HB := n0_; clear n0_; (try clear hb); (try clear hb2); (try clear hk); (try clear hi)))
        go_ret
        exact ⟨by first | rfl | (simp [errW_none, errW_some] <;> rfl) | (simp [*, errW_none, errW_some] <;> rfl), by repeat (first | (with_reducible first | exact HB.out | apply below_alloc | apply pw_below_drewN | apply below_drew1) | exact HB.out)⟩
mutual
def laws_sgSmall.j0 (G : Int → Int → ByteArray → List S25 → Option Bool) : Nat → List (S25) → Bool → Option (Bool)
  | 0, _, _ => none
  | k + 1, x0, x12 => if x12 = true then (some false) else (laws_sgSmall.l0 G k x0 x0 (x0.length : Int) 0)
def laws_sgSmall.l0 (G : Int → Int → ByteArray → List S25 → Option Bool) : Nat → List (S25) → List (S25) → Int → Int → Option (Bool)
  | 0, _, _, _, _ => none
  | k + 1, x0, x13, x14, x15 => if x15 < x14 then (if 0 ≤ x15 then (if x15 < (x13.length : Int) then ((G ((rd_T25 x13 x15).f0) ((rd_T25 x13 x15).f1) ((rd_T25 x13 x15).f2) ((rd_T25 x13 x15).f3)).bind fun t141 => (if t141 = true then ((laws_sgKeys.f k ((rd_T25 x13 x15).f0) ((rd_T25 x13 x15).f1) ((rd_T25 x13 x15).f2) ((rd_T25 x13 x15).f3)).bind fun t142 => (if t142 = true then (laws_sgSmall.l0 G k x0 x13 x14 (wrap64 (x15 + 1))) else (some false))) else (some false))) else (none)) else (none)) else ((spec_TidyAll.f G k x0).bind fun t138 => (some t138))
end
def laws_sgSmall.f (G : Int → Int → ByteArray → List S25 → Option Bool) (k : Nat) (l0 : List (S25)) : Option (Bool) := if (l0.length : Int) > 50 then (laws_sgSmall.j0 G k l0 true) else ((Given.bnd.f l0 300).bind fun t137 => (laws_sgSmall.j0 G k l0 (!t137)))
set_option maxHeartbeats 8000000 in
set_option maxRecDepth 100000 in
theorem laws_sgSmall.calls (G : Int → Int → ByteArray → List S25 → Option Bool) (hTdy : ∀ (a0 a1 : Int) (a2 : ByteArray) (A : Option Addr) (c : Nat) (l : List S25) (r : Bool) (w : World), Given.Tabs w → Kd.C k25 w A l.length l → l.length ≤ c → G a0 a1 a2 l = some r → Calls Tryd.prog 8 #[.agg #[.int .u8 a0, .int .u64 a1, .string a2, .slice A l.length c]] w fun e w' => e = .returned (.bool r) ∧ Below w.heap.size w w') (k : Nat) (A0 : Option Addr) (c0 : Nat) (l0 : List (S25)) (r : Bool) (w : World) (hG : Given.Tabs w) (hr0 : Kd.C k25 w A0 l0.length l0) (hc0 : l0.length ≤ c0) (h : laws_sgSmall.f G k l0 = some r) :
    Calls Tryd.prog 5 #[.slice A0 l0.length c0] w fun e w' => e = .returned (.bool r) ∧ Below w.heap.size w w' := by
  have HG := Aside0.mk hG
  clear hG
  have hu25 := Tryd.underlying25
  have HR0 := Aside0.mk hr0
  have HC0 := Aside0.mk hc0
  clear hr0 hc0
  have HB := Aside0.mk (Below.refl w.heap.size w)
  have H : (if (l0.length : Int) > 50 then (laws_sgSmall.j0 G k l0 true) else ((Given.bnd.f l0 300).bind fun t137 => (laws_sgSmall.j0 G k l0 (!t137)))) = some r := h
  clear h
  have HC2 := Aside0.mk H
  clear H
  go_enter Tryd.func5, Tryd.ntmps5
  go_upto_region 1 with (fail)
  go_cut [12] (fun v12 wc => ∃ (kq : Nat) (x12_1 : Bool), v12 = .bool x12_1 ∧ Aside0 (laws_sgSmall.j0 G kq l0 x12_1 = some r) ∧ Aside0 (kq ≤ k) ∧ Aside0 (Below w.heap.size w wc))
  case first =>
    have H := HC2.out
    clear HC2
    by_cases c3 : (l0.length : Int) > 50
    · rw [if_pos c3] at H
      have c3b0 : decide (50 < (l0.length : Int)) = true := decide_eq_true c3
      have c3b1 : decide (50 < l0.length) = true := decide_eq_true (by omega)
      clear c3
      (first | rw [c3b0] | (simp only [i64_w, i32_w]; rw [c3b0]) | skip)
      have H' := Aside0.mk H
      clear H
      go_wp2
      go_meet
      case rel => exact ⟨_, (true), (by first | rfl | (simp; done) | (simp [*]; done)), H', ⟨by first | omega | exact Nat.le_refl _⟩, ⟨by repeat (first | (with_reducible first | exact HB.out | apply below_alloc | apply pw_below_drewN | apply below_drew1) | exact HB.out)⟩⟩
    · rw [if_neg c3] at H
      have c3b0 : decide (50 < (l0.length : Int)) = false := decide_eq_false c3
      have c3b1 : decide (50 < l0.length) = false := decide_eq_false (by omega)
      clear c3
      (first | rw [c3b0] | (simp only [i64_w, i32_w]; rw [c3b0]) | skip)
      replace H := Option.bind_eq_some_iff.mp H
      obtain ⟨t137, A40, H⟩ := H
      replace H : (laws_sgSmall.j0 G k l0 (!t137)) = some r := H
      have A4 := Aside0.mk A40
      clear A40
      have H' := Aside0.mk H
      clear H
      go_wp2_with (first | (go_at_call 7; (with_reducible refine (Given.bnd.calls _ _ l0 300 t137 _ ?side1 ?side2 A4.out).mono ?_); (case side1 => repeat (first | exact (Kd.C_below HR0.out HB.out) | (with_reducible refine Kd.C_alloc ?_ _) | (with_reducible refine Kd.C_drewN ?_ _) | (with_reducible refine Kd.C_drew ?_))); (case side2 => exact HC0.out); rintro e w5 ⟨rfl, hb⟩; have n0_ := Aside0.mk (below_step (by repeat (first | (with_reducible first | exact HB.out | apply below_alloc | apply pw_below_drewN | apply below_drew1) | exact HB.out)) hb); clear HB; have HB := n0_; clear n0_; (try clear hb); (try clear hb2); (try clear hk); (try clear hi)))
      go_meet
      case rel => exact ⟨_, (!t137), (by first | rfl | (simp; done) | (simp [*]; done)), H', ⟨by first | omega | exact Nat.le_refl _⟩, ⟨by repeat (first | (with_reducible first | exact HB.out | apply below_alloc | apply pw_below_drewN | apply below_drew1) | exact HB.out)⟩⟩
  case rest =>
    clear HC2
    try clear p2
    try clear c3
    try clear c3b0
    try clear c3b1
    try clear c5
    obtain ⟨kq, x12_1, rfl, HA, HJ1, HB⟩ := hcut
    cases kq with
    | zero => exact absurd HA.out (by simp [laws_sgSmall.j0])
    | succ kj1 =>
      have H := HA.out
      clear HA
      simp only [laws_sgSmall.j0] at H
      by_cases c6 : x12_1 = true
      · subst c6
        have H1 : (some false) = some r := by rw [if_pos rfl] at H; exact H
        clear H
        have H := H1
        clear H1
        obtain rfl := Option.some.inj H
        go_wp2
        go_ret
        exact ⟨by first | rfl | (simp [errW_none, errW_some] <;> rfl) | (simp [*, errW_none, errW_some] <;> rfl), by repeat (first | (with_reducible first | exact HB.out | apply below_alloc | apply pw_below_drewN | apply below_drew1) | exact HB.out)⟩
      · replace c6 := Bool.eq_false_iff.mpr c6
        subst c6
        have H1 : (laws_sgSmall.l0 G kj1 l0 l0 (l0.length : Int) 0) = some r := by rw [if_neg (show ¬ (false = true) by decide)] at H; exact H
        clear H
        have H := H1
        clear H1
        have H' := Aside0.mk H
        clear H
        go_wp2
        go_loopg [15] kj1 (fun kq v15 w' => ∃ (x15_2 : Int), v15 = .int .i64 x15_2 ∧ Aside0 (laws_sgSmall.l0 G kq l0 l0 (l0.length : Int) x15_2 = some r) ∧ Aside0 (kq ≤ kj1) ∧ Aside0 (Below w.heap.size w w'))
        case atStart => exact ⟨(0), (by first | rfl | (simp; done) | (simp [*]; done)), H', ⟨Nat.le_refl _⟩, ⟨by repeat (first | (with_reducible first | exact HB.out | apply below_alloc | apply pw_below_drewN | apply below_drew1) | exact HB.out)⟩⟩
        case round =>
          clear H'
          try clear p2
          try clear c3
          try clear c3b0
          try clear c3b1
          try clear c5
          try clear c6
          try clear p2
          obtain ⟨x15_2, rfl, HA, HK2, HB⟩ := hrel
          cases gk with
          | zero => exact absurd HA.out (by simp [laws_sgSmall.l0])
          | succ k2 =>
            have H := HA.out
            clear HA
            simp only [laws_sgSmall.l0] at H
            by_cases c7 : x15_2 < (l0.length : Int)
            · rw [if_pos c7] at H
              have c7b0 : decide (x15_2 < (l0.length : Int)) = true := decide_eq_true c7
              clear c7
              by_cases c8 : 0 ≤ x15_2
              · rw [if_pos c8] at H
                have c8b0 : decide (0 ≤ x15_2) = true := decide_eq_true c8
                clear c8
                by_cases c9 : x15_2 < (l0.length : Int)
                · rw [if_pos c9] at H
                  have c9b0 : decide (x15_2 < (l0.length : Int)) = true := decide_eq_true c9
                  clear c9
                  replace H := Option.bind_eq_some_iff.mp H
                  obtain ⟨t141, A100, H⟩ := H
                  replace H : (if t141 = true then ((laws_sgKeys.f k2 ((rd_T25 l0 x15_2).f0) ((rd_T25 l0 x15_2).f1) ((rd_T25 l0 x15_2).f2) ((rd_T25 l0 x15_2).f3)).bind fun t142 => (if t142 = true then (laws_sgSmall.l0 G k2 l0 l0 (l0.length : Int) (wrap64 (x15_2 + 1))) else (some false))) else (some false)) = some r := H
                  have A10 := Aside0.mk A100
                  clear A100
                  by_cases c11 : t141 = true
                  · subst c11
                    have H1 : ((laws_sgKeys.f k2 ((rd_T25 l0 x15_2).f0) ((rd_T25 l0 x15_2).f1) ((rd_T25 l0 x15_2).f2) ((rd_T25 l0 x15_2).f3)).bind fun t142 => (if t142 = true then (laws_sgSmall.l0 G k2 l0 l0 (l0.length : Int) (wrap64 (x15_2 + 1))) else (some false))) = some r := by rw [if_pos rfl] at H; exact H
                    clear H
                    have H := H1
                    clear H1
                    replace H := Option.bind_eq_some_iff.mp H
                    obtain ⟨t142, A120, H⟩ := H
                    replace H : (if t142 = true then (laws_sgSmall.l0 G k2 l0 l0 (l0.length : Int) (wrap64 (x15_2 + 1))) else (some false)) = some r := H
                    have A12 := Aside0.mk A120
                    clear A120
                    by_cases c13 : t142 = true
                    · subst c13
                      have H1 : (laws_sgSmall.l0 G k2 l0 l0 (l0.length : Int) (wrap64 (x15_2 + 1))) = some r := by rw [if_pos rfl] at H; exact H
                      clear H
                      have H := H1
                      clear H1
                      have H' := Aside0.mk H
                      clear H
                      have p139 : 0 ≤ (x15_2 : Int) := of_decide_eq_true (by first | (with_reducible assumption) | assumption)
                      have q139 : x15_2 < (l0.length : Int) := of_decide_eq_true (by first | (with_reducible assumption) | assumption)
                      obtain ⟨ad139, A139_3, c139_3, e139, hx139_0, hx139_1, hx139_2, hx139_3, hl139_3, hi139_3⟩ := at_T25 HR0.out x15_2 p139 q139
                      cases e139
                      replace hx139_0 := (HB.out.cell (World.block_lt_of_cell? w _ hx139_0)).trans hx139_0
                      replace hx139_1 := (HB.out.cell (World.block_lt_of_cell? w _ hx139_1)).trans hx139_1
                      replace hx139_2 := (HB.out.cell (World.block_lt_of_cell? w _ hx139_2)).trans hx139_2
                      replace hx139_3 := (HB.out.cell (World.block_lt_of_cell? w _ hx139_3)).trans hx139_3
                      have HR139_3 := Aside0.mk hi139_3
                      have HC139_3 := Aside0.mk hl139_3
                      clear hi139_3 hl139_3
                      replace p139 := eq_true p139
                      replace q139 := eq_true q139
                      go_wp2_with (first | ((with_reducible refine gate_dst (N := 4) rfl ?_); refine box_event ?hg (N := 4) ?hd (cs := #[.int .u8 0, .int .u64 0, .string (⟨#[]⟩ : ByteArray), .slice none 0 0]) (t := 25) ?hr ?_; (case hd => rfl); (case hg => rfl); (case hr => first | (go_simp; done) | (go_simp; rfl)); intro gb140 hg w14 hbox hb; have n0_ := Aside0.mk (below_step (by repeat (first | (with_reducible first | exact HB.out | apply below_alloc | apply pw_below_drewN | apply below_drew1) | exact HB.out)) hb); have n1_ := Aside0.mk (hbox); have n2_ := Aside0.mk ((by rw [hg]; exact (below_size (by repeat (first | (with_reducible first | exact HB.out | apply below_alloc | apply pw_below_drewN | apply below_drew1) | exact HB.out))) : w.heap.size ≤ gb140)); have n3_ := Aside0.mk ((by rw [hg]; exact (below_size (by repeat (first | (with_reducible first | exact HB.out | apply below_alloc | apply pw_below_drewN | apply below_drew1) | exact HB.out))) : w.heap.size ≤ gb140)); clear HB; have HB := n0_; have BK140 := n1_; have GW140 := n2_; have GE140 := n3_; clear n0_ n1_ n2_ n3_; clear hb hbox hg; have hcz15_0 : w14.cell? ⟨gb140, 0, none⟩ = some (.int .u8 0) := (blk_cell BK140.out 0).trans rfl; have hcz15_1 : w14.cell? ⟨gb140, 1, none⟩ = some (.int .u64 0) := (blk_cell BK140.out 1).trans rfl; have hcz15_2 : w14.cell? ⟨gb140, 2, none⟩ = some (.string (⟨#[]⟩ : ByteArray)) := (blk_cell BK140.out 2).trans rfl; have hcz15_3 : w14.cell? ⟨gb140, 3, none⟩ = some (.slice none 0 0) := (blk_cell BK140.out 3).trans rfl; have hfz15_0 := blk_frozen BK140.out 0; have hfz15_1 := blk_frozen BK140.out 1; have hfz15_2 := blk_frozen BK140.out 2; have hfz15_3 := blk_frozen BK140.out 3) | ((with_reducible refine gate_callee (f := 8) rfl ?_); refine goesL_ (some 20) rfl rfl Tryd.func8 (by kernel_rfl) rfl #[.agg #[.int .u8 ((rd_T25 l0 x15_2).f0), .int .u64 ((rd_T25 l0 x15_2).f1), .string ((rd_T25 l0 x15_2).f2), .slice A139_3 ((rd_T25 l0 x15_2).f3).length c139_3]] rfl (by (try simp only [List.map_toArray, List.map_cons, List.map_nil]); first | done | rfl | (simp only [List.length_drop, List.length_take]; rfl)) ?_; (with_reducible refine (hTdy ((rd_T25 l0 x15_2).f0) ((rd_T25 l0 x15_2).f1) ((rd_T25 l0 x15_2).f2) _ _ ((rd_T25 l0 x15_2).f3) true _ (Given.Tabs.below HG.out (by repeat (first | (with_reducible first | exact HB.out | apply below_alloc | apply pw_below_drewN | apply below_drew1 | refine below_set ?_ GE140.out) | exact HB.out)) (Nat.le_refl _)) ?side1 ?side2 A10.out).mono ?_); (case side1 => exact Kd.C_below HR139_3.out (by repeat (first | (with_reducible first | exact HB.out | apply below_alloc | apply pw_below_drewN | apply below_drew1 | refine below_set ?_ GE140.out) | exact HB.out))); (case side2 => exact HC139_3.out); rintro e w16 ⟨rfl, hb⟩; refine ⟨_, rfl, ?_⟩; have n0_ := Aside0.mk (blk_below (g := gb140) (o := .cells #[.int .u8 ((rd_T25 l0 x15_2).f0), .int .u64 ((rd_T25 l0 x15_2).f1), .string ((rd_T25 l0 x15_2).f2), .slice A139_3 ((rd_T25 l0 x15_2).f3).length c139_3] 25 (0, 0)) (by (with_reducible repeat (first | refine blk_drewN ?_ _ | refine blk_drew ?_ | refine blk_alloc ?_ _)); refine blk_put (cs := #[.int .u8 ((rd_T25 l0 x15_2).f0), .int .u64 ((rd_T25 l0 x15_2).f1), .string ((rd_T25 l0 x15_2).f2), .slice none 0 0]) ?_ 3 _ rfl; (with_reducible repeat (first | refine blk_drewN ?_ _ | refine blk_drew ?_ | refine blk_alloc ?_ _)); refine blk_put (cs := #[.int .u8 ((rd_T25 l0 x15_2).f0), .int .u64 ((rd_T25 l0 x15_2).f1), .string (⟨#[]⟩ : ByteArray), .slice none 0 0]) ?_ 2 _ rfl; (with_reducible repeat (first | refine blk_drewN ?_ _ | refine blk_drew ?_ | refine blk_alloc ?_ _)); refine blk_put (cs := #[.int .u8 ((rd_T25 l0 x15_2).f0), .int .u64 0, .string (⟨#[]⟩ : ByteArray), .slice none 0 0]) ?_ 1 _ rfl; (with_reducible repeat (first | refine blk_drewN ?_ _ | refine blk_drew ?_ | refine blk_alloc ?_ _)); refine blk_put (cs := #[.int .u8 0, .int .u64 0, .string (⟨#[]⟩ : ByteArray), .slice none 0 0]) ?_ 0 _ rfl; (with_reducible repeat (first | refine blk_drewN ?_ _ | refine blk_drew ?_ | refine blk_alloc ?_ _)); exact BK140.out) hb); have n1_ := Aside0.mk (below_step (by repeat (first | (with_reducible first | exact HB.out | apply below_alloc | apply pw_below_drewN | apply below_drew1 | refine below_set ?_ GE140.out) | exact HB.out)) hb); clear BK140; clear HB; have BK140 := n0_; have HB := n1_; clear n0_ n1_; (try clear hb); (try clear hb2); (try clear hk); (try clear hi); have hcz17_0 : w16.cell? ⟨gb140, 0, none⟩ = some (.int .u8 ((rd_T25 l0 x15_2).f0)) := (blk_cell BK140.out 0).trans rfl; have hcz17_1 : w16.cell? ⟨gb140, 1, none⟩ = some (.int .u64 ((rd_T25 l0 x15_2).f1)) := (blk_cell BK140.out 1).trans rfl; have hcz17_2 : w16.cell? ⟨gb140, 2, none⟩ = some (.string ((rd_T25 l0 x15_2).f2)) := (blk_cell BK140.out 2).trans rfl; have hcz17_3 : w16.cell? ⟨gb140, 3, none⟩ = some (.slice A139_3 ((rd_T25 l0 x15_2).f3).length c139_3) := (blk_cell BK140.out 3).trans rfl; have hfz17_0 := blk_frozen BK140.out 0; have hfz17_1 := blk_frozen BK140.out 1; have hfz17_2 := blk_frozen BK140.out 2; have hfz17_3 := blk_frozen BK140.out 3) | (go_at_call 9; (with_reducible refine (laws_sgKeys.calls k2 ((rd_T25 l0 x15_2).f0) ((rd_T25 l0 x15_2).f1) ((rd_T25 l0 x15_2).f2) _ _ ((rd_T25 l0 x15_2).f3) true _ ?side1 ?side2 A12.out).mono ?_); (case side1 => repeat (first | exact (Kd.C_below HR139_3.out HB.out) | (with_reducible refine Kd.C_alloc ?_ _) | (with_reducible refine Kd.C_drewN ?_ _) | (with_reducible refine Kd.C_drew ?_))); (case side2 => exact HC139_3.out); rintro e w18 ⟨rfl, hb⟩; have n0_ := Aside0.mk (blk_below (g := gb140) (o := .cells #[.int .u8 ((rd_T25 l0 x15_2).f0), .int .u64 ((rd_T25 l0 x15_2).f1), .string ((rd_T25 l0 x15_2).f2), .slice A139_3 ((rd_T25 l0 x15_2).f3).length c139_3] 25 (0, 0)) (by (with_reducible repeat (first | refine blk_drewN ?_ _ | refine blk_drew ?_ | refine blk_alloc ?_ _)); exact BK140.out) hb); have n1_ := Aside0.mk (below_step (by repeat (first | (with_reducible first | exact HB.out | apply below_alloc | apply pw_below_drewN | apply below_drew1 | refine below_set ?_ GE140.out) | exact HB.out)) hb); clear BK140; clear HB; have BK140 := n0_; have HB := n1_; clear n0_ n1_; (try clear hb); (try clear hb2); (try clear hk); (try clear hi)))
                      go_roundg k2
                      case measure => have := HJ1.out; have := HK2.out; omega
                      case rel => exact ⟨(wrap64 (x15_2 + 1)), (by first | rfl | (simp; done) | (simp [*]; done)), H', ⟨by have := HJ1.out; have := HK2.out; omega⟩, ⟨by repeat (first | (with_reducible first | exact HB.out | apply below_alloc | apply pw_below_drewN | apply below_drew1 | refine below_set ?_ GE140.out) | exact HB.out)⟩⟩
                    · replace c13 := Bool.eq_false_iff.mpr c13
                      subst c13
                      have H1 : (some false) = some r := by rw [if_neg (show ¬ (false = true) by decide)] at H; exact H
                      clear H
                      have H := H1
                      clear H1
                      obtain rfl := Option.some.inj H
                      have p139 : 0 ≤ (x15_2 : Int) := of_decide_eq_true (by first | (with_reducible assumption) | assumption)
                      have q139 : x15_2 < (l0.length : Int) := of_decide_eq_true (by first | (with_reducible assumption) | assumption)
                      obtain ⟨ad139, A139_3, c139_3, e139, hx139_0, hx139_1, hx139_2, hx139_3, hl139_3, hi139_3⟩ := at_T25 HR0.out x15_2 p139 q139
                      cases e139
                      replace hx139_0 := (HB.out.cell (World.block_lt_of_cell? w _ hx139_0)).trans hx139_0
                      replace hx139_1 := (HB.out.cell (World.block_lt_of_cell? w _ hx139_1)).trans hx139_1
                      replace hx139_2 := (HB.out.cell (World.block_lt_of_cell? w _ hx139_2)).trans hx139_2
                      replace hx139_3 := (HB.out.cell (World.block_lt_of_cell? w _ hx139_3)).trans hx139_3
                      have HR139_3 := Aside0.mk hi139_3
                      have HC139_3 := Aside0.mk hl139_3
                      clear hi139_3 hl139_3
                      replace p139 := eq_true p139
                      replace q139 := eq_true q139
                      go_wp2_with (first | ((with_reducible refine gate_dst (N := 4) rfl ?_); refine box_event ?hg (N := 4) ?hd (cs := #[.int .u8 0, .int .u64 0, .string (⟨#[]⟩ : ByteArray), .slice none 0 0]) (t := 25) ?hr ?_; (case hd => rfl); (case hg => rfl); (case hr => first | (go_simp; done) | (go_simp; rfl)); intro gb140 hg w19 hbox hb; have n0_ := Aside0.mk (below_step (by repeat (first | (with_reducible first | exact HB.out | apply below_alloc | apply pw_below_drewN | apply below_drew1) | exact HB.out)) hb); have n1_ := Aside0.mk (hbox); have n2_ := Aside0.mk ((by rw [hg]; exact (below_size (by repeat (first | (with_reducible first | exact HB.out | apply below_alloc | apply pw_below_drewN | apply below_drew1) | exact HB.out))) : w.heap.size ≤ gb140)); have n3_ := Aside0.mk ((by rw [hg]; exact (below_size (by repeat (first | (with_reducible first | exact HB.out | apply below_alloc | apply pw_below_drewN | apply below_drew1) | exact HB.out))) : w.heap.size ≤ gb140)); clear HB; have HB := n0_; have BK140 := n1_; have GW140 := n2_; have GE140 := n3_; clear n0_ n1_ n2_ n3_; clear hb hbox hg; have hcz20_0 : w19.cell? ⟨gb140, 0, none⟩ = some (.int .u8 0) := (blk_cell BK140.out 0).trans rfl; have hcz20_1 : w19.cell? ⟨gb140, 1, none⟩ = some (.int .u64 0) := (blk_cell BK140.out 1).trans rfl; have hcz20_2 : w19.cell? ⟨gb140, 2, none⟩ = some (.string (⟨#[]⟩ : ByteArray)) := (blk_cell BK140.out 2).trans rfl; have hcz20_3 : w19.cell? ⟨gb140, 3, none⟩ = some (.slice none 0 0) := (blk_cell BK140.out 3).trans rfl; have hfz20_0 := blk_frozen BK140.out 0; have hfz20_1 := blk_frozen BK140.out 1; have hfz20_2 := blk_frozen BK140.out 2; have hfz20_3 := blk_frozen BK140.out 3) | ((with_reducible refine gate_callee (f := 8) rfl ?_); refine goesL_ (some 20) rfl rfl Tryd.func8 (by kernel_rfl) rfl #[.agg #[.int .u8 ((rd_T25 l0 x15_2).f0), .int .u64 ((rd_T25 l0 x15_2).f1), .string ((rd_T25 l0 x15_2).f2), .slice A139_3 ((rd_T25 l0 x15_2).f3).length c139_3]] rfl (by (try simp only [List.map_toArray, List.map_cons, List.map_nil]); first | done | rfl | (simp only [List.length_drop, List.length_take]; rfl)) ?_; (with_reducible refine (hTdy ((rd_T25 l0 x15_2).f0) ((rd_T25 l0 x15_2).f1) ((rd_T25 l0 x15_2).f2) _ _ ((rd_T25 l0 x15_2).f3) true _ (Given.Tabs.below HG.out (by repeat (first | (with_reducible first | exact HB.out | apply below_alloc | apply pw_below_drewN | apply below_drew1 | refine below_set ?_ GE140.out) | exact HB.out)) (Nat.le_refl _)) ?side1 ?side2 A10.out).mono ?_); (case side1 => exact Kd.C_below HR139_3.out (by repeat (first | (with_reducible first | exact HB.out | apply below_alloc | apply pw_below_drewN | apply below_drew1 | refine below_set ?_ GE140.out) | exact HB.out))); (case side2 => exact HC139_3.out); rintro e w21 ⟨rfl, hb⟩; refine ⟨_, rfl, ?_⟩; have n0_ := Aside0.mk (blk_below (g := gb140) (o := .cells #[.int .u8 ((rd_T25 l0 x15_2).f0), .int .u64 ((rd_T25 l0 x15_2).f1), .string ((rd_T25 l0 x15_2).f2), .slice A139_3 ((rd_T25 l0 x15_2).f3).length c139_3] 25 (0, 0)) (by (with_reducible repeat (first | refine blk_drewN ?_ _ | refine blk_drew ?_ | refine blk_alloc ?_ _)); refine blk_put (cs := #[.int .u8 ((rd_T25 l0 x15_2).f0), .int .u64 ((rd_T25 l0 x15_2).f1), .string ((rd_T25 l0 x15_2).f2), .slice none 0 0]) ?_ 3 _ rfl; (with_reducible repeat (first | refine blk_drewN ?_ _ | refine blk_drew ?_ | refine blk_alloc ?_ _)); refine blk_put (cs := #[.int .u8 ((rd_T25 l0 x15_2).f0), .int .u64 ((rd_T25 l0 x15_2).f1), .string (⟨#[]⟩ : ByteArray), .slice none 0 0]) ?_ 2 _ rfl; (with_reducible repeat (first | refine blk_drewN ?_ _ | refine blk_drew ?_ | refine blk_alloc ?_ _)); refine blk_put (cs := #[.int .u8 ((rd_T25 l0 x15_2).f0), .int .u64 0, .string (⟨#[]⟩ : ByteArray), .slice none 0 0]) ?_ 1 _ rfl; (with_reducible repeat (first | refine blk_drewN ?_ _ | refine blk_drew ?_ | refine blk_alloc ?_ _)); refine blk_put (cs := #[.int .u8 0, .int .u64 0, .string (⟨#[]⟩ : ByteArray), .slice none 0 0]) ?_ 0 _ rfl; (with_reducible repeat (first | refine blk_drewN ?_ _ | refine blk_drew ?_ | refine blk_alloc ?_ _)); exact BK140.out) hb); have n1_ := Aside0.mk (below_step (by repeat (first | (with_reducible first | exact HB.out | apply below_alloc | apply pw_below_drewN | apply below_drew1 | refine below_set ?_ GE140.out) | exact HB.out)) hb); clear BK140; clear HB; have BK140 := n0_; have HB := n1_; clear n0_ n1_; (try clear hb); (try clear hb2); (try clear hk); (try clear hi); have hcz22_0 : w21.cell? ⟨gb140, 0, none⟩ = some (.int .u8 ((rd_T25 l0 x15_2).f0)) := (blk_cell BK140.out 0).trans rfl; have hcz22_1 : w21.cell? ⟨gb140, 1, none⟩ = some (.int .u64 ((rd_T25 l0 x15_2).f1)) := (blk_cell BK140.out 1).trans rfl; have hcz22_2 : w21.cell? ⟨gb140, 2, none⟩ = some (.string ((rd_T25 l0 x15_2).f2)) := (blk_cell BK140.out 2).trans rfl; have hcz22_3 : w21.cell? ⟨gb140, 3, none⟩ = some (.slice A139_3 ((rd_T25 l0 x15_2).f3).length c139_3) := (blk_cell BK140.out 3).trans rfl; have hfz22_0 := blk_frozen BK140.out 0; have hfz22_1 := blk_frozen BK140.out 1; have hfz22_2 := blk_frozen BK140.out 2; have hfz22_3 := blk_frozen BK140.out 3) | (go_at_call 9; (with_reducible refine (laws_sgKeys.calls k2 ((rd_T25 l0 x15_2).f0) ((rd_T25 l0 x15_2).f1) ((rd_T25 l0 x15_2).f2) _ _ ((rd_T25 l0 x15_2).f3) false _ ?side1 ?side2 A12.out).mono ?_); (case side1 => repeat (first | exact (Kd.C_below HR139_3.out HB.out) | (with_reducible refine Kd.C_alloc ?_ _) | (with_reducible refine Kd.C_drewN ?_ _) | (with_reducible refine Kd.C_drew ?_))); (case side2 => exact HC139_3.out); rintro e w23 ⟨rfl, hb⟩; have n0_ := Aside0.mk (blk_below (g := gb140) (o := .cells #[.int .u8 ((rd_T25 l0 x15_2).f0), .int .u64 ((rd_T25 l0 x15_2).f1), .string ((rd_T25 l0 x15_2).f2), .slice A139_3 ((rd_T25 l0 x15_2).f3).length c139_3] 25 (0, 0)) (by (with_reducible repeat (first | refine blk_drewN ?_ _ | refine blk_drew ?_ | refine blk_alloc ?_ _)); exact BK140.out) hb); have n1_ := Aside0.mk (below_step (by repeat (first | (with_reducible first | exact HB.out | apply below_alloc | apply pw_below_drewN | apply below_drew1 | refine below_set ?_ GE140.out) | exact HB.out)) hb); clear BK140; clear HB; have BK140 := n0_; have HB := n1_; clear n0_ n1_; (try clear hb); (try clear hb2); (try clear hk); (try clear hi)))
                      go_ret
                      exact ⟨by first | rfl | (simp [errW_none, errW_some] <;> rfl) | (simp [*, errW_none, errW_some] <;> rfl), by repeat (first | (with_reducible first | exact HB.out | apply below_alloc | apply pw_below_drewN | apply below_drew1 | refine below_set ?_ GE140.out) | exact HB.out)⟩
                  · replace c11 := Bool.eq_false_iff.mpr c11
                    subst c11
                    have H1 : (some false) = some r := by rw [if_neg (show ¬ (false = true) by decide)] at H; exact H
                    clear H
                    have H := H1
                    clear H1
                    obtain rfl := Option.some.inj H
                    have p139 : 0 ≤ (x15_2 : Int) := of_decide_eq_true (by first | (with_reducible assumption) | assumption)
                    have q139 : x15_2 < (l0.length : Int) := of_decide_eq_true (by first | (with_reducible assumption) | assumption)
                    obtain ⟨ad139, A139_3, c139_3, e139, hx139_0, hx139_1, hx139_2, hx139_3, hl139_3, hi139_3⟩ := at_T25 HR0.out x15_2 p139 q139
                    cases e139
                    replace hx139_0 := (HB.out.cell (World.block_lt_of_cell? w _ hx139_0)).trans hx139_0
                    replace hx139_1 := (HB.out.cell (World.block_lt_of_cell? w _ hx139_1)).trans hx139_1
                    replace hx139_2 := (HB.out.cell (World.block_lt_of_cell? w _ hx139_2)).trans hx139_2
                    replace hx139_3 := (HB.out.cell (World.block_lt_of_cell? w _ hx139_3)).trans hx139_3
                    have HR139_3 := Aside0.mk hi139_3
                    have HC139_3 := Aside0.mk hl139_3
                    clear hi139_3 hl139_3
                    replace p139 := eq_true p139
                    replace q139 := eq_true q139
                    go_wp2_with (first | ((with_reducible refine gate_dst (N := 4) rfl ?_); refine box_event ?hg (N := 4) ?hd (cs := #[.int .u8 0, .int .u64 0, .string (⟨#[]⟩ : ByteArray), .slice none 0 0]) (t := 25) ?hr ?_; (case hd => rfl); (case hg => rfl); (case hr => first | (go_simp; done) | (go_simp; rfl)); intro gb140 hg w24 hbox hb; have n0_ := Aside0.mk (below_step (by repeat (first | (with_reducible first | exact HB.out | apply below_alloc | apply pw_below_drewN | apply below_drew1) | exact HB.out)) hb); have n1_ := Aside0.mk (hbox); have n2_ := Aside0.mk ((by rw [hg]; exact (below_size (by repeat (first | (with_reducible first | exact HB.out | apply below_alloc | apply pw_below_drewN | apply below_drew1) | exact HB.out))) : w.heap.size ≤ gb140)); have n3_ := Aside0.mk ((by rw [hg]; exact (below_size (by repeat (first | (with_reducible first | exact HB.out | apply below_alloc | apply pw_below_drewN | apply below_drew1) | exact HB.out))) : w.heap.size ≤ gb140)); clear HB; have HB := n0_; have BK140 := n1_; have GW140 := n2_; have GE140 := n3_; clear n0_ n1_ n2_ n3_; clear hb hbox hg; have hcz25_0 : w24.cell? ⟨gb140, 0, none⟩ = some (.int .u8 0) := (blk_cell BK140.out 0).trans rfl; have hcz25_1 : w24.cell? ⟨gb140, 1, none⟩ = some (.int .u64 0) := (blk_cell BK140.out 1).trans rfl; have hcz25_2 : w24.cell? ⟨gb140, 2, none⟩ = some (.string (⟨#[]⟩ : ByteArray)) := (blk_cell BK140.out 2).trans rfl; have hcz25_3 : w24.cell? ⟨gb140, 3, none⟩ = some (.slice none 0 0) := (blk_cell BK140.out 3).trans rfl; have hfz25_0 := blk_frozen BK140.out 0; have hfz25_1 := blk_frozen BK140.out 1; have hfz25_2 := blk_frozen BK140.out 2; have hfz25_3 := blk_frozen BK140.out 3) | ((with_reducible refine gate_callee (f := 8) rfl ?_); refine goesL_ (some 20) rfl rfl Tryd.func8 (by kernel_rfl) rfl #[.agg #[.int .u8 ((rd_T25 l0 x15_2).f0), .int .u64 ((rd_T25 l0 x15_2).f1), .string ((rd_T25 l0 x15_2).f2), .slice A139_3 ((rd_T25 l0 x15_2).f3).length c139_3]] rfl (by (try simp only [List.map_toArray, List.map_cons, List.map_nil]); first | done | rfl | (simp only [List.length_drop, List.length_take]; rfl)) ?_; (with_reducible refine (hTdy ((rd_T25 l0 x15_2).f0) ((rd_T25 l0 x15_2).f1) ((rd_T25 l0 x15_2).f2) _ _ ((rd_T25 l0 x15_2).f3) false _ (Given.Tabs.below HG.out (by repeat (first | (with_reducible first | exact HB.out | apply below_alloc | apply pw_below_drewN | apply below_drew1 | refine below_set ?_ GE140.out) | exact HB.out)) (Nat.le_refl _)) ?side1 ?side2 A10.out).mono ?_); (case side1 => exact Kd.C_below HR139_3.out (by repeat (first | (with_reducible first | exact HB.out | apply below_alloc | apply pw_below_drewN | apply below_drew1 | refine below_set ?_ GE140.out) | exact HB.out))); (case side2 => exact HC139_3.out); rintro e w26 ⟨rfl, hb⟩; refine ⟨_, rfl, ?_⟩; have n0_ := Aside0.mk (blk_below (g := gb140) (o := .cells #[.int .u8 ((rd_T25 l0 x15_2).f0), .int .u64 ((rd_T25 l0 x15_2).f1), .string ((rd_T25 l0 x15_2).f2), .slice A139_3 ((rd_T25 l0 x15_2).f3).length c139_3] 25 (0, 0)) (by (with_reducible repeat (first | refine blk_drewN ?_ _ | refine blk_drew ?_ | refine blk_alloc ?_ _)); refine blk_put (cs := #[.int .u8 ((rd_T25 l0 x15_2).f0), .int .u64 ((rd_T25 l0 x15_2).f1), .string ((rd_T25 l0 x15_2).f2), .slice none 0 0]) ?_ 3 _ rfl; (with_reducible repeat (first | refine blk_drewN ?_ _ | refine blk_drew ?_ | refine blk_alloc ?_ _)); refine blk_put (cs := #[.int .u8 ((rd_T25 l0 x15_2).f0), .int .u64 ((rd_T25 l0 x15_2).f1), .string (⟨#[]⟩ : ByteArray), .slice none 0 0]) ?_ 2 _ rfl; (with_reducible repeat (first | refine blk_drewN ?_ _ | refine blk_drew ?_ | refine blk_alloc ?_ _)); refine blk_put (cs := #[.int .u8 ((rd_T25 l0 x15_2).f0), .int .u64 0, .string (⟨#[]⟩ : ByteArray), .slice none 0 0]) ?_ 1 _ rfl; (with_reducible repeat (first | refine blk_drewN ?_ _ | refine blk_drew ?_ | refine blk_alloc ?_ _)); refine blk_put (cs := #[.int .u8 0, .int .u64 0, .string (⟨#[]⟩ : ByteArray), .slice none 0 0]) ?_ 0 _ rfl; (with_reducible repeat (first | refine blk_drewN ?_ _ | refine blk_drew ?_ | refine blk_alloc ?_ _)); exact BK140.out) hb); have n1_ := Aside0.mk (below_step (by repeat (first | (with_reducible first | exact HB.out | apply below_alloc | apply pw_below_drewN | apply below_drew1 | refine below_set ?_ GE140.out) | exact HB.out)) hb); clear BK140; clear HB; have BK140 := n0_; have HB := n1_; clear n0_ n1_; (try clear hb); (try clear hb2); (try clear hk); (try clear hi)))
                    go_ret
                    exact ⟨by first | rfl | (simp [errW_none, errW_some] <;> rfl) | (simp [*, errW_none, errW_some] <;> rfl), by repeat (first | (with_reducible first | exact HB.out | apply below_alloc | apply pw_below_drewN | apply below_drew1 | refine below_set ?_ GE140.out) | exact HB.out)⟩
                · rw [if_neg c9] at H
                  exact absurd H (by simp)
              · rw [if_neg c8] at H
                exact absurd H (by simp)
            · rw [if_neg c7] at H
              have c7b0 : decide (x15_2 < (l0.length : Int)) = false := decide_eq_false c7
              clear c7
              replace H := Option.bind_eq_some_iff.mp H
              obtain ⟨t138, A270, H⟩ := H
              replace H : (some t138) = some r := H
              have A27 := Aside0.mk A270
              clear A270
              obtain rfl := Option.some.inj H
              go_wp2_with (first | ((with_reducible refine gate_callee (f := 10) rfl ?_); refine goesL_ (some 29) rfl rfl Tryd.func10 (by kernel_rfl) rfl #[.slice A0 l0.length c0] rfl (by (try simp only [List.map_toArray, List.map_cons, List.map_nil]); first | done | rfl | (simp only [List.length_drop, List.length_take]; rfl)) ?_; (with_reducible refine (spec_TidyAll.calls G hTdy k2 _ _ l0 t138 _ (Given.Tabs.below HG.out (by repeat (first | (with_reducible first | exact HB.out | apply below_alloc | apply pw_below_drewN | apply below_drew1) | exact HB.out)) (Nat.le_refl _)) ?side1 ?side2 A27.out).mono ?_); (case side1 => repeat (first | exact (Kd.C_below HR0.out HB.out) | (with_reducible refine Kd.C_alloc ?_ _) | (with_reducible refine Kd.C_drewN ?_ _) | (with_reducible refine Kd.C_drew ?_))); (case side2 => exact HC0.out); rintro e w28 ⟨rfl, hb⟩; refine ⟨_, rfl, ?_⟩; have n0_ := Aside0.mk (below_step (by repeat (first | (with_reducible first | exact HB.out | apply below_alloc | apply pw_below_drewN | apply below_drew1) | exact HB.out)) hb); clear HB; have HB := n0_; clear n0_; (try clear hb); (try clear hb2); (try clear hk); (try clear hi)))
              go_ret
              exact ⟨by first | rfl | (simp [errW_none, errW_some] <;> rfl) | (simp [*, errW_none, errW_some] <;> rfl), by repeat (first | (with_reducible first | exact HB.out | apply below_alloc | apply pw_below_drewN | apply below_drew1) | exact HB.out)⟩
end Go.Proofs.YtnojjfklnihmnaaDoor.PSp

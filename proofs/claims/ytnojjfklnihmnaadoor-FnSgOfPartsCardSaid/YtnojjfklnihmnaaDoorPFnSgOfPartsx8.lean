/- Part of the proof of LawFnSgOfParts. -/
import Derived.Test.YtnojjfklnihmnaaDoorGvBd
set_option linter.unusedVariables false
set_option linter.unusedSimpArgs false
namespace Go.Proofs.YtnojjfklnihmnaaDoor.PFnSgOfParts
open Go.RowKit Go.Proofs.YtnojjfklnihmnaaDoorW.PrintWords Go.Proofs.YtnojjfklnihmnaaDoorW.PrintLast Go.Proofs.YtnojjfklnihmnaaDoorW.PrintMore
attribute [local go_sem] max2_int min2_int max_two min_two max_three min_three max_four min_four   -- for this text's walks alone
set_option linter.unusedVariables false
set_option linter.unusedSimpArgs false
mutual
def impl_valIn.l0 : Nat → List (S25) → Int → Int → Int → Int → ByteArray → List (S47) → Option (Int × Int × ByteArray × (List (S47)))
  | 0, _, _, _, _, _, _, _ => none
  | k + 1, x14, x15, x16, x190000, x190001, x190002, x190003 => if x16 < x15 then (if 0 ≤ x16 then (if x16 < (x14.length : Int) then ((impl_valIn.f k ((rd_T25 x14 x16).f0) ((rd_T25 x14 x16).f1) ((rd_T25 x14 x16).f2) ((rd_T25 x14 x16).f3)).bind fun bt192 => (if x190003.length < 2513169434916 then (impl_valIn.l0 k x14 x15 (wrap64 (x16 + 1)) x190000 x190001 x190002 (x190003 ++ [(⟨bt192.1, bt192.2.1, bt192.2.2.1, bt192.2.2.2⟩ : S47)])) else (none))) else (none)) else (none)) else (some (x190000, x190001, x190002, x190003))
def impl_valIn.f : Nat → Int → Int → ByteArray → List (S25) → Option (Int × Int × ByteArray × (List (S47)))
  | 0, _, _, _, _ => none
  | k + 1, a0_0, a0_1, a0_2, l0_3 => impl_valIn.l0 k l0_3 (l0_3.length : Int) 0 a0_0 a0_1 a0_2 ([] : List (S47))
end
def impl_valIn.T5 : Bool × List (List Nat × List Nat) := (true, [([], []), ([0], [0]), ([], []), ([2], [2]), ([3], [3]), ([1, 4, 3], [1, 4]), ([0, 1, 2, 3, 4, 5], []), ([6, 5, 5, 0, 1, 2, 3, 4, 5], [5, 6])])
def impl_valIn.B5 : List Nat := [0, 1, 0, 4, 12, 31, 63, 127]
theorem impl_valIn.tab5 : rtab .any (opsOf Tryd.f20 5) = impl_valIn.T5 := by kernel_rfl
theorem impl_valIn.bits5 : waitsOk impl_valIn.T5.2 impl_valIn.B5 = true := by kernel_rfl
set_option maxHeartbeats 8000000 in
set_option maxRecDepth 100000 in
theorem impl_valIn.calls (k : Nat) : ∀ (a0_0 : Int) (a0_1 : Int) (a0_2 : ByteArray) (A0_3 : Option Addr) (c0_3 : Nat) (l0_3 : List (S25)) (r1 : Int) (r2 : Int) (r3 : ByteArray) (r4 : List (S47)) (w : World) (hr0_3 : Kd.C k25 w A0_3 l0_3.length l0_3) (hc0_3 : l0_3.length ≤ c0_3) (h : impl_valIn.f k a0_0 a0_1 a0_2 l0_3 = some (r1, r2, r3, r4)),
    Calls Tryd.prog 20 #[.agg #[.int .u8 a0_0, .int .u64 a0_1, .string a0_2, .slice A0_3 l0_3.length c0_3]] w fun e w' => ∃ v3_ : Value, e = .returned (.agg #[.int .u8 r1, .int .u64 r2, .string r3, v3_]) ∧ Kd.R k47 47 w' w.heap.size (fun _ => True) v3_ r4 ∧ Below w.heap.size w w' := by
  induction k using Nat.strongRecOn with
  | _ k ih =>
  intro a0_0 a0_1 a0_2 A0_3 c0_3 l0_3 r1 r2 r3 r4 w hr0_3 hc0_3 h
  cases k with
  | zero => exact absurd h (by simp [impl_valIn.f])
  | succ k =>
  simp only [impl_valIn.f] at h
  have hu25 := Tryd.underlying25
  have hu47 := Tryd.underlying47
  have HR0_3 := Aside0.mk hr0_3
  have HC0_3 := Aside0.mk hc0_3
  clear hr0_3 hc0_3
  have HB := Aside0.mk (Below.refl w.heap.size w)
  have H : (impl_valIn.l0 k l0_3 (l0_3.length : Int) 0 a0_0 a0_1 a0_2 ([] : List (S47))) = some (r1, r2, r3, r4) := h
  clear h
  have H' := Aside0.mk H
  clear H
  go_enter Tryd.func20, Tryd.ntmps20
  go_wp2_with (first | ((with_reducible refine gate_dst (N := 1) rfl ?_); refine box_event ?hg (N := 1) ?hd (cs := #[.int .u8 a0_0, .int .u64 a0_1, .string a0_2, .slice A0_3 l0_3.length c0_3]) (t := 25) ?hr ?_; (case hd => rfl); (case hg => rfl); (case hr => first | (go_simp; done) | (go_simp; rfl)); intro gb187 hg w2 hbox hb; have n0_ := Aside0.mk (below_step (by repeat (first | (with_reducible first | exact HB.out | apply below_alloc | apply pw_below_drewN | apply below_drew1) | exact HB.out)) hb); have n1_ := Aside0.mk (hbox); have n2_ := Aside0.mk ((by rw [hg]; exact (below_size (by repeat (first | (with_reducible first | exact HB.out | apply below_alloc | apply pw_below_drewN | apply below_drew1) | exact HB.out))) : w.heap.size ≤ gb187)); have n3_ := Aside0.mk ((by rw [hg]; exact (below_size (by repeat (first | (with_reducible first | exact HB.out | apply below_alloc | apply pw_below_drewN | apply below_drew1) | exact HB.out))) : w.heap.size ≤ gb187)); clear HB; have HB := n0_; have BK187 := n1_; have GW187 := n2_; have GE187 := n3_; clear n0_ n1_ n2_ n3_; clear hb hbox hg) | ((with_reducible refine gate_dst (N := 2) rfl ?_); refine box_event ?hg (N := 2) ?hd (cs := #[.int .u8 0, .int .u64 0, .string (⟨#[]⟩ : ByteArray), .slice none 0 0]) (t := 47) ?hr ?_; (case hd => rfl); (case hg => rfl); (case hr => first | (go_simp; done) | (go_simp; rfl)); intro gb188 hg w3 hbox hb; have n0_ := Aside0.mk (blk_below (g := gb187) (o := .cells #[.int .u8 a0_0, .int .u64 a0_1, .string a0_2, .slice A0_3 l0_3.length c0_3] 25 (0, 0)) (by (with_reducible repeat (first | refine blk_drewN ?_ _ | refine blk_drew ?_ | refine blk_alloc ?_ _)); exact BK187.out) hb); have n1_ := Aside0.mk (below_step (by repeat (first | (with_reducible first | exact HB.out | apply below_alloc | apply pw_below_drewN | apply below_drew1 | refine below_set ?_ GE187.out) | exact HB.out)) hb); have n2_ := Aside0.mk (hbox); have n3_ := Aside0.mk ((by rw [hg]; exact (below_size (by repeat (first | (with_reducible first | exact HB.out | apply below_alloc | apply pw_below_drewN | apply below_drew1 | refine below_set ?_ GE187.out) | exact HB.out))) : w.heap.size ≤ gb188)); have n4_ := Aside0.mk ((by rw [hg]; exact (below_size (by repeat (first | (with_reducible first | exact HB.out | apply below_alloc | apply pw_below_drewN | apply below_drew1 | refine below_set ?_ GE187.out) | exact HB.out))) : w.heap.size ≤ gb188)); have n5_ := Aside0.mk ((by rw [hg]; exact Nat.ne_of_lt (blk_lt (g := gb187) (o := .cells #[.int .u8 a0_0, .int .u64 a0_1, .string a0_2, .slice A0_3 l0_3.length c0_3] 25 (0, 0)) (by (with_reducible repeat (first | refine blk_drewN ?_ _ | refine blk_drew ?_ | refine blk_alloc ?_ _)); exact BK187.out)) : gb187 ≠ gb188)); have n6_ := Aside0.mk ((by rw [hg]; exact Nat.ne_of_gt (blk_lt (g := gb187) (o := .cells #[.int .u8 a0_0, .int .u64 a0_1, .string a0_2, .slice A0_3 l0_3.length c0_3] 25 (0, 0)) (by (with_reducible repeat (first | refine blk_drewN ?_ _ | refine blk_drew ?_ | refine blk_alloc ?_ _)); exact BK187.out)) : gb188 ≠ gb187)); clear BK187; clear HB; have BK187 := n0_; have HB := n1_; have BK188 := n2_; have GW188 := n3_; have GE188 := n4_; have NB187_188 := n5_; have NB188_187 := n6_; clear n0_ n1_ n2_ n3_ n4_ n5_ n6_; clear hb hbox hg; have hnb4 := NB187_188.out; have hnc4 := NB188_187.out; have hcz5_0 : w3.cell? ⟨gb187, 0, none⟩ = some (.int .u8 a0_0) := (blk_cell BK187.out 0).trans rfl; have hcz5_1 : w3.cell? ⟨gb187, 1, none⟩ = some (.int .u64 a0_1) := (blk_cell BK187.out 1).trans rfl; have hcz5_2 : w3.cell? ⟨gb187, 2, none⟩ = some (.string a0_2) := (blk_cell BK187.out 2).trans rfl; have hcz5_3 : w3.cell? ⟨gb187, 3, none⟩ = some (.slice A0_3 l0_3.length c0_3) := (blk_cell BK187.out 3).trans rfl; have hfz5_0 := blk_frozen BK187.out 0; have hfz5_1 := blk_frozen BK187.out 1; have hfz5_2 := blk_frozen BK187.out 2; have hfz5_3 := blk_frozen BK187.out 3) | ((with_reducible refine gate_dst (N := 3) rfl ?_); refine box_event ?hg (N := 3) ?hd (cs := #[.int .u8 0, .int .u64 0, .string (⟨#[]⟩ : ByteArray), .slice none 0 0]) (t := 47) ?hr ?_; (case hd => rfl); (case hg => rfl); (case hr => first | (go_simp; done) | (go_simp; rfl)); intro gb189 hg w6 hbox hb; have n0_ := Aside0.mk (blk_below (g := gb187) (o := .cells #[.int .u8 a0_0, .int .u64 a0_1, .string a0_2, .slice A0_3 l0_3.length c0_3] 25 (0, 0)) (by (with_reducible repeat (first | refine blk_drewN ?_ _ | refine blk_drew ?_ | refine blk_alloc ?_ _)); exact BK187.out) hb); have n1_ := Aside0.mk (blk_below (g := gb188) (o := .cells #[.int .u8 0, .int .u64 0, .string (⟨#[]⟩ : ByteArray), .slice none 0 0] 47 (0, 0)) (by (with_reducible repeat (first | refine blk_drewN ?_ _ | refine blk_drew ?_ | refine blk_alloc ?_ _)); exact BK188.out) hb); have n2_ := Aside0.mk (below_step (by repeat (first | (with_reducible first | exact HB.out | apply below_alloc | apply pw_below_drewN | apply below_drew1 | refine below_set ?_ GE187.out | refine below_set ?_ GE188.out) | exact HB.out)) hb); have n3_ := Aside0.mk (hbox); have n4_ := Aside0.mk ((by rw [hg]; exact (below_size (by repeat (first | (with_reducible first | exact HB.out | apply below_alloc | apply pw_below_drewN | apply below_drew1 | refine below_set ?_ GE187.out | refine below_set ?_ GE188.out) | exact HB.out))) : w.heap.size ≤ gb189)); have n5_ := Aside0.mk ((by rw [hg]; exact (below_size (by repeat (first | (with_reducible first | exact HB.out | apply below_alloc | apply pw_below_drewN | apply below_drew1 | refine below_set ?_ GE187.out | refine below_set ?_ GE188.out) | exact HB.out))) : w.heap.size ≤ gb189)); have n6_ := Aside0.mk ((by rw [hg]; exact Nat.ne_of_lt (blk_lt (g := gb187) (o := .cells #[.int .u8 a0_0, .int .u64 a0_1, .string a0_2, .slice A0_3 l0_3.length c0_3] 25 (0, 0)) (by (with_reducible repeat (first | refine blk_drewN ?_ _ | refine blk_drew ?_ | refine blk_alloc ?_ _)); exact BK187.out)) : gb187 ≠ gb189)); have n7_ := Aside0.mk ((by rw [hg]; exact Nat.ne_of_gt (blk_lt (g := gb187) (o := .cells #[.int .u8 a0_0, .int .u64 a0_1, .string a0_2, .slice A0_3 l0_3.length c0_3] 25 (0, 0)) (by (with_reducible repeat (first | refine blk_drewN ?_ _ | refine blk_drew ?_ | refine blk_alloc ?_ _)); exact BK187.out)) : gb189 ≠ gb187)); have n8_ := Aside0.mk ((by rw [hg]; exact Nat.ne_of_lt (blk_lt (g := gb188) (o := .cells #[.int .u8 0, .int .u64 0, .string (⟨#[]⟩ : ByteArray), .slice none 0 0] 47 (0, 0)) (by (with_reducible repeat (first | refine blk_drewN ?_ _ | refine blk_drew ?_ | refine blk_alloc ?_ _)); exact BK188.out)) : gb188 ≠ gb189)); have n9_ := Aside0.mk ((by rw [hg]; exact Nat.ne_of_gt (blk_lt (g := gb188) (o := .cells #[.int .u8 0, .int .u64 0, .string (⟨#[]⟩ : ByteArray), .slice none 0 0] 47 (0, 0)) (by (with_reducible repeat (first | refine blk_drewN ?_ _ | refine blk_drew ?_ | refine blk_alloc ?_ _)); exact BK188.out)) : gb189 ≠ gb188)); clear BK187; clear BK188; clear HB; have BK187 := n0_; have BK188 := n1_; have HB := n2_; have BK189 := n3_; have GW189 := n4_; have GE189 := n5_; have NB187_189 := n6_; have NB189_187 := n7_; have NB188_189 := n8_; have NB189_188 := n9_; clear n0_ n1_ n2_ n3_ n4_ n5_ n6_ n7_ n8_ n9_; clear hb hbox hg; have hnb7 := NB189_187.out; have hnc7 := NB187_189.out; have hnb8 := NB189_188.out; have hnc8 := NB188_189.out; have hcz9_0 : w6.cell? ⟨gb189, 0, none⟩ = some (.int .u8 0) := (blk_cell BK189.out 0).trans rfl; have hcz9_1 : w6.cell? ⟨gb189, 1, none⟩ = some (.int .u64 0) := (blk_cell BK189.out 1).trans rfl; have hcz9_2 : w6.cell? ⟨gb189, 2, none⟩ = some (.string (⟨#[]⟩ : ByteArray)) := (blk_cell BK189.out 2).trans rfl; have hcz9_3 : w6.cell? ⟨gb189, 3, none⟩ = some (.slice none 0 0) := (blk_cell BK189.out 3).trans rfl; have hfz9_0 := blk_frozen BK189.out 0; have hfz9_1 := blk_frozen BK189.out 1; have hfz9_2 := blk_frozen BK189.out 2; have hfz9_3 := blk_frozen BK189.out 3; have hcz10_0 : w6.cell? ⟨gb187, 0, none⟩ = some (.int .u8 a0_0) := (blk_cell BK187.out 0).trans rfl; have hcz10_1 : w6.cell? ⟨gb187, 1, none⟩ = some (.int .u64 a0_1) := (blk_cell BK187.out 1).trans rfl; have hcz10_2 : w6.cell? ⟨gb187, 2, none⟩ = some (.string a0_2) := (blk_cell BK187.out 2).trans rfl; have hcz10_3 : w6.cell? ⟨gb187, 3, none⟩ = some (.slice A0_3 l0_3.length c0_3) := (blk_cell BK187.out 3).trans rfl; have hfz10_0 := blk_frozen BK187.out 0; have hfz10_1 := blk_frozen BK187.out 1; have hfz10_2 := blk_frozen BK187.out 2; have hfz10_3 := blk_frozen BK187.out 3))
  go_loopg [16] k (fun kq v16 w' => ∃ (x16_1 : Int) (x190003_1 : List (S47)) (u190003 : Value), v16 = .int .i64 x16_1 ∧ Aside0 (impl_valIn.l0 kq l0_3 (l0_3.length : Int) x16_1 a0_0 a0_1 a0_2 x190003_1 = some (r1, r2, r3, r4)) ∧ Aside0 (kq ≤ k) ∧ Aside0 (Kd.R k47 47 w' w.heap.size (fun k_ => k_ ≠ gb188 ∧ k_ ≠ gb189) u190003 x190003_1) ∧ Aside0 (w'.heap[gb187]? = some (.cells #[.int .u8 a0_0, .int .u64 a0_1, .string a0_2, (.slice A0_3 l0_3.length c0_3)] 25 (0, 0))) ∧ Aside0 (w'.heap[gb188]? = some (.cells #[.int .u8 0, .int .u64 0, .string (⟨#[]⟩ : ByteArray), (.slice none 0 0)] 47 (0, 0))) ∧ Aside0 (w'.heap[gb189]? = some (.cells #[.int .u8 a0_0, .int .u64 a0_1, .string a0_2, u190003] 47 (0, 0))) ∧ Aside0 (Below w.heap.size w w'))
  case atStart => exact ⟨(0), (([] : List (S47))), (.slice none 0 0), (by first | rfl | (simp; done) | (simp [*]; done)), H', ⟨Nat.le_refl _⟩, ⟨by first | exact Kd.R_nil _ _ _ _ _ | exact Kd.N_nil _ _ _ _ _ | exact Kd.V_nil _ _ _ _ _ | exact Kd.Q_nil _ _ _ _ _ | exact Kd.S_nil _ _ _ _ _⟩, ⟨by (with_reducible repeat (first | refine blk_drewN ?_ _ | refine blk_drew ?_ | refine blk_alloc ?_ _)); refine blk_far ?_ NB187_189.out _; (with_reducible repeat (first | refine blk_drewN ?_ _ | refine blk_drew ?_ | refine blk_alloc ?_ _)); refine blk_far ?_ NB187_189.out _; (with_reducible repeat (first | refine blk_drewN ?_ _ | refine blk_drew ?_ | refine blk_alloc ?_ _)); refine blk_far ?_ NB187_189.out _; (with_reducible repeat (first | refine blk_drewN ?_ _ | refine blk_drew ?_ | refine blk_alloc ?_ _)); refine blk_far ?_ NB187_189.out _; (with_reducible repeat (first | refine blk_drewN ?_ _ | refine blk_drew ?_ | refine blk_alloc ?_ _)); exact BK187.out⟩, ⟨by (with_reducible repeat (first | refine blk_drewN ?_ _ | refine blk_drew ?_ | refine blk_alloc ?_ _)); refine blk_far ?_ NB188_189.out _; (with_reducible repeat (first | refine blk_drewN ?_ _ | refine blk_drew ?_ | refine blk_alloc ?_ _)); refine blk_far ?_ NB188_189.out _; (with_reducible repeat (first | refine blk_drewN ?_ _ | refine blk_drew ?_ | refine blk_alloc ?_ _)); refine blk_far ?_ NB188_189.out _; (with_reducible repeat (first | refine blk_drewN ?_ _ | refine blk_drew ?_ | refine blk_alloc ?_ _)); refine blk_far ?_ NB188_189.out _; (with_reducible repeat (first | refine blk_drewN ?_ _ | refine blk_drew ?_ | refine blk_alloc ?_ _)); exact BK188.out⟩, ⟨by (with_reducible repeat (first | refine blk_drewN ?_ _ | refine blk_drew ?_ | refine blk_alloc ?_ _)); refine blk_put (cs := #[.int .u8 a0_0, .int .u64 a0_1, .string a0_2, .slice none 0 0]) ?_ 3 _ rfl; (with_reducible repeat (first | refine blk_drewN ?_ _ | refine blk_drew ?_ | refine blk_alloc ?_ _)); refine blk_put (cs := #[.int .u8 a0_0, .int .u64 a0_1, .string (⟨#[]⟩ : ByteArray), .slice none 0 0]) ?_ 2 _ rfl; (with_reducible repeat (first | refine blk_drewN ?_ _ | refine blk_drew ?_ | refine blk_alloc ?_ _)); refine blk_put (cs := #[.int .u8 a0_0, .int .u64 0, .string (⟨#[]⟩ : ByteArray), .slice none 0 0]) ?_ 1 _ rfl; (with_reducible repeat (first | refine blk_drewN ?_ _ | refine blk_drew ?_ | refine blk_alloc ?_ _)); refine blk_put (cs := #[.int .u8 0, .int .u64 0, .string (⟨#[]⟩ : ByteArray), .slice none 0 0]) ?_ 0 _ rfl; (with_reducible repeat (first | refine blk_drewN ?_ _ | refine blk_drew ?_ | refine blk_alloc ?_ _)); exact BK189.out⟩, ⟨by repeat (first | (with_reducible first | exact HB.out | apply below_alloc | apply pw_below_drewN | apply below_drew1 | refine below_set ?_ GE187.out | refine below_set ?_ GE188.out | refine below_set ?_ GE189.out) | exact HB.out)⟩⟩
  case round =>
    clear H'
    try clear c2
    try clear p2
    try clear c4
    try clear c7
    try clear c8
    try clear hcz10_0
    try clear hcz10_1
    try clear hcz10_2
    try clear hcz10_3
    try clear hcz5_0
    try clear hcz5_1
    try clear hcz5_2
    try clear hcz5_3
    try clear hcz9_0
    try clear hcz9_1
    try clear hcz9_2
    try clear hcz9_3
    try clear hfz10_0
    try clear hfz10_1
    try clear hfz10_2
    try clear hfz10_3
    try clear hfz5_0
    try clear hfz5_1
    try clear hfz5_2
    try clear hfz5_3
    try clear hfz9_0
    try clear hfz9_1
    try clear hfz9_2
    try clear hfz9_3
    obtain ⟨x16_1, x190003_1, u190003, rfl, HA, HK1, HO_190003, BK187, BK188, BK189, HB⟩ := hrel
    cases gk with
    | zero => exact absurd HA.out (by simp [impl_valIn.l0])
    | succ k1 =>
      have H := HA.out
      clear HA
      simp only [impl_valIn.l0] at H
      by_cases c11 : x16_1 < (l0_3.length : Int)
      · rw [if_pos c11] at H
        have c11b0 : decide (x16_1 < (l0_3.length : Int)) = true := decide_eq_true c11
        clear c11
        by_cases c12 : 0 ≤ x16_1
        · rw [if_pos c12] at H
          have c12b0 : decide (0 ≤ x16_1) = true := decide_eq_true c12
          clear c12
          by_cases c13 : x16_1 < (l0_3.length : Int)
          · rw [if_pos c13] at H
            have c13b0 : decide (x16_1 < (l0_3.length : Int)) = true := decide_eq_true c13
            clear c13
            replace H := Option.bind_eq_some_iff.mp H
            obtain ⟨⟨t192, t193, t194, t195⟩, A140, H⟩ := H
            replace H : (if x190003_1.length < 2513169434916 then (impl_valIn.l0 k1 l0_3 (l0_3.length : Int) (wrap64 (x16_1 + 1)) a0_0 a0_1 a0_2 (x190003_1 ++ [(⟨t192, t193, t194, t195⟩ : S47)])) else (none)) = some (r1, r2, r3, r4) := H
            have A14 := Aside0.mk A140
            clear A140
            by_cases c15 : x190003_1.length < 2513169434916
            · rw [if_pos c15] at H
              have LMc15 := Aside0.mk c15
              clear c15
              obtain ⟨y198, hy198⟩ : ∃ y_ : List (S47), y_ = (x190003_1 ++ [(⟨t192, t193, t194, t195⟩ : S47)]) := ⟨_, rfl⟩
              replace H : (impl_valIn.l0 k1 l0_3 (l0_3.length : Int) (wrap64 (x16_1 + 1)) a0_0 a0_1 a0_2 y198) = some (r1, r2, r3, r4) := by first | (rw [hy198]; with_reducible exact H) | (have H2_ := (Option.bind_some _ _).symm.trans H; rw [hy198]; with_reducible exact H2_) | (have H2_ := (Option.bind_some _ _).symm.trans H; with_reducible exact H2_) | with_reducible exact H | (rw [hy198]; exact H) | exact H
              have Ny198 := Aside0.mk hy198
              clear hy198
              have H' := Aside0.mk H
              clear H
              have p190 : 0 ≤ (x16_1 : Int) := of_decide_eq_true (by first | (with_reducible assumption) | assumption)
              have q190 : x16_1 < (l0_3.length : Int) := of_decide_eq_true (by first | (with_reducible assumption) | assumption)
              obtain ⟨ad190, A190_3, c190_3, e190, hx190_0, hx190_1, hx190_2, hx190_3, hl190_3, hi190_3⟩ := at_T25 HR0_3.out x16_1 p190 q190
              cases e190
              replace hx190_0 := (HB.out.cell (World.block_lt_of_cell? w _ hx190_0)).trans hx190_0
              replace hx190_1 := (HB.out.cell (World.block_lt_of_cell? w _ hx190_1)).trans hx190_1
              replace hx190_2 := (HB.out.cell (World.block_lt_of_cell? w _ hx190_2)).trans hx190_2
              replace hx190_3 := (HB.out.cell (World.block_lt_of_cell? w _ hx190_3)).trans hx190_3
              have HR190_3 := Aside0.mk hi190_3
              have HC190_3 := Aside0.mk hl190_3
              clear hi190_3 hl190_3
              replace p190 := eq_true p190
              replace q190 := eq_true q190
              try go_wp2_with (first | ((with_reducible refine gate_dst (N := 5) rfl ?_); refine box_event ?hg (N := 5) ?hd (cs := #[.int .u8 0, .int .u64 0, .string (⟨#[]⟩ : ByteArray), .slice none 0 0]) (t := 25) ?hr ?_; (case hd => rfl); (case hg => rfl); (case hr => first | (go_simp; done) | (go_simp; rfl)); intro gb191 hg w16 hbox hb; have n0_ := Aside0.mk (Kd.R_below (by (with_reducible repeat (first | apply Kd.R_alloc | apply Kd.R_drewN | apply Kd.R_drew)); exact HO_190003.out) hb); have n1_ := Aside0.mk (blk_below (g := gb187) (o := .cells #[.int .u8 a0_0, .int .u64 a0_1, .string a0_2, .slice (some ad190) l0_3.length c0_3] 25 (0, 0)) (by (with_reducible repeat (first | refine blk_drewN ?_ _ | refine blk_drew ?_ | refine blk_alloc ?_ _)); exact BK187.out) hb); have n2_ := Aside0.mk (blk_below (g := gb188) (o := .cells #[.int .u8 0, .int .u64 0, .string (⟨#[]⟩ : ByteArray), .slice none 0 0] 47 (0, 0)) (by (with_reducible repeat (first | refine blk_drewN ?_ _ | refine blk_drew ?_ | refine blk_alloc ?_ _)); exact BK188.out) hb); have n3_ := Aside0.mk (blk_below (g := gb189) (o := .cells #[.int .u8 a0_0, .int .u64 a0_1, .string a0_2, u190003] 47 (0, 0)) (by (with_reducible repeat (first | refine blk_drewN ?_ _ | refine blk_drew ?_ | refine blk_alloc ?_ _)); exact BK189.out) hb); have n4_ := Aside0.mk (below_step (by repeat (first | (with_reducible first | exact HB.out | apply below_alloc | apply pw_below_drewN | apply below_drew1 | refine below_set ?_ GE187.out | refine below_set ?_ GE188.out | refine below_set ?_ GE189.out) | exact HB.out)) hb); have n5_ := Aside0.mk (hbox); have n6_ := Aside0.mk ((by rw [hg]; exact (below_size (by repeat (first | (with_reducible first | exact HB.out | apply below_alloc | apply pw_below_drewN | apply below_drew1 | refine below_set ?_ GE187.out | refine below_set ?_ GE188.out | refine below_set ?_ GE189.out) | exact HB.out))) : w.heap.size ≤ gb191)); have n7_ := Aside0.mk ((by rw [hg]; exact (below_size (by repeat (first | (with_reducible first | exact HB.out | apply below_alloc | apply pw_below_drewN | apply below_drew1 | refine below_set ?_ GE187.out | refine below_set ?_ GE188.out | refine below_set ?_ GE189.out) | exact HB.out))) : w.heap.size ≤ gb191)); have n8_ := Aside0.mk ((by rw [hg]; exact Nat.ne_of_lt (blk_lt (g := gb187) (o := .cells #[.int .u8 a0_0, .int .u64 a0_1, .string a0_2, .slice (some ad190) l0_3.length c0_3] 25 (0, 0)) (by (with_reducible repeat (first | refine blk_drewN ?_ _ | refine blk_drew ?_ | refine blk_alloc ?_ _)); exact BK187.out)) : gb187 ≠ gb191)); have n9_ := Aside0.mk ((by rw [hg]; exact Nat.ne_of_gt (blk_lt (g := gb187) (o := .cells #[.int .u8 a0_0, .int .u64 a0_1, .string a0_2, .slice (some ad190) l0_3.length c0_3] 25 (0, 0)) (by (with_reducible repeat (first | refine blk_drewN ?_ _ | refine blk_drew ?_ | refine blk_alloc ?_ _)); exact BK187.out)) : gb191 ≠ gb187)); have n10_ := Aside0.mk ((by rw [hg]; exact Nat.ne_of_lt (blk_lt (g := gb188) (o := .cells #[.int .u8 0, .int .u64 0, .string (⟨#[]⟩ : ByteArray), .slice none 0 0] 47 (0, 0)) (by (with_reducible repeat (first | refine blk_drewN ?_ _ | refine blk_drew ?_ | refine blk_alloc ?_ _)); exact BK188.out)) : gb188 ≠ gb191)); have n11_ := Aside0.mk ((by rw [hg]; exact Nat.ne_of_gt (blk_lt (g := gb188) (o := .cells #[.int .u8 0, .int .u64 0, .string (⟨#[]⟩ : ByteArray), .slice none 0 0] 47 (0, 0)) (by (with_reducible repeat (first | refine blk_drewN ?_ _ | refine blk_drew ?_ | refine blk_alloc ?_ _)); exact BK188.out)) : gb191 ≠ gb188)); have n12_ := Aside0.mk ((by rw [hg]; exact Nat.ne_of_lt (blk_lt (g := gb189) (o := .cells #[.int .u8 a0_0, .int .u64 a0_1, .string a0_2, u190003] 47 (0, 0)) (by (with_reducible repeat (first | refine blk_drewN ?_ _ | refine blk_drew ?_ | refine blk_alloc ?_ _)); exact BK189.out)) : gb189 ≠ gb191)); have n13_ := Aside0.mk ((by rw [hg]; exact Nat.ne_of_gt (blk_lt (g := gb189) (o := .cells #[.int .u8 a0_0, .int .u64 a0_1, .string a0_2, u190003] 47 (0, 0)) (by (with_reducible repeat (first | refine blk_drewN ?_ _ | refine blk_drew ?_ | refine blk_alloc ?_ _)); exact BK189.out)) : gb191 ≠ gb189)); clear HO_190003; clear BK187; clear BK188; clear BK189; clear HB; have HO_190003 := n0_; have BK187 := n1_; have BK188 := n2_; have BK189 := n3_; have HB := n4_; have BK191 := n5_; have GW191 := n6_; have GE191 := n7_; have NB187_191 := n8_; have NB191_187 := n9_; have NB188_191 := n10_; have NB191_188 := n11_; have NB189_191 := n12_; have NB191_189 := n13_; clear n0_ n1_ n2_ n3_ n4_ n5_ n6_ n7_ n8_ n9_ n10_ n11_ n12_ n13_; clear hb hbox hg; have hnb17 := NB191_187.out; have hnc17 := NB187_191.out; have hnb18 := NB191_188.out; have hnc18 := NB188_191.out; have hnb19 := NB191_189.out; have hnc19 := NB189_191.out; have hcz20_0 : w16.cell? ⟨gb191, 0, none⟩ = some (.int .u8 0) := (blk_cell BK191.out 0).trans rfl; have hcz20_1 : w16.cell? ⟨gb191, 1, none⟩ = some (.int .u64 0) := (blk_cell BK191.out 1).trans rfl; have hcz20_2 : w16.cell? ⟨gb191, 2, none⟩ = some (.string (⟨#[]⟩ : ByteArray)) := (blk_cell BK191.out 2).trans rfl; have hcz20_3 : w16.cell? ⟨gb191, 3, none⟩ = some (.slice none 0 0) := (blk_cell BK191.out 3).trans rfl; have hfz20_0 := blk_frozen BK191.out 0; have hfz20_1 := blk_frozen BK191.out 1; have hfz20_2 := blk_frozen BK191.out 2; have hfz20_3 := blk_frozen BK191.out 3))
              have n0_ : Aside0 (Kd.R k47 47 ((((w16.setCell ⟨gb191, 0, none⟩ (.int .u8 ((rd_T25 l0_3 x16_1).f0))).setCell ⟨gb191, 1, none⟩ (.int .u64 ((rd_T25 l0_3 x16_1).f1))).setCell ⟨gb191, 2, none⟩ (.string ((rd_T25 l0_3 x16_1).f2))).setCell ⟨gb191, 3, none⟩ (.slice A190_3 ((rd_T25 l0_3 x16_1).f3).length c190_3)) w.heap.size (fun k_ => k_ ≠ gb188 ∧ k_ ≠ gb189) u190003 x190003_1) := ⟨by (with_reducible repeat (first | apply Kd.R_alloc | apply Kd.R_drewN | apply Kd.R_drew)); exact Kd.R_mono (Kd.R_far (p := ⟨gb191, 3, none⟩) (Kd.R_far (p := ⟨gb191, 2, none⟩) (Kd.R_far (p := ⟨gb191, 1, none⟩) (Kd.R_far (p := ⟨gb191, 0, none⟩) (Kd.R_types HO_190003.out BK191.out (by decide)) (fun _ hk => hk.2) (.int .u8 ((rd_T25 l0_3 x16_1).f0))) (fun _ hk => hk.2) (.int .u64 ((rd_T25 l0_3 x16_1).f1))) (fun _ hk => hk.2) (.string ((rd_T25 l0_3 x16_1).f2))) (fun _ hk => hk.2) (.slice A190_3 ((rd_T25 l0_3 x16_1).f3).length c190_3)) (fun _ hk => ⟨hk.1.1, hk.1.2⟩)⟩
              have n1_ : Aside0 (((((w16.setCell ⟨gb191, 0, none⟩ (.int .u8 ((rd_T25 l0_3 x16_1).f0))).setCell ⟨gb191, 1, none⟩ (.int .u64 ((rd_T25 l0_3 x16_1).f1))).setCell ⟨gb191, 2, none⟩ (.string ((rd_T25 l0_3 x16_1).f2))).setCell ⟨gb191, 3, none⟩ (.slice A190_3 ((rd_T25 l0_3 x16_1).f3).length c190_3)).heap[gb187]? = some (.cells #[.int .u8 a0_0, .int .u64 a0_1, .string a0_2, .slice (some ad190) l0_3.length c0_3] 25 (0, 0))) := ⟨by (with_reducible repeat (first | refine blk_drewN ?_ _ | refine blk_drew ?_ | refine blk_alloc ?_ _)); refine blk_far ?_ NB187_191.out _; (with_reducible repeat (first | refine blk_drewN ?_ _ | refine blk_drew ?_ | refine blk_alloc ?_ _)); refine blk_far ?_ NB187_191.out _; (with_reducible repeat (first | refine blk_drewN ?_ _ | refine blk_drew ?_ | refine blk_alloc ?_ _)); refine blk_far ?_ NB187_191.out _; (with_reducible repeat (first | refine blk_drewN ?_ _ | refine blk_drew ?_ | refine blk_alloc ?_ _)); refine blk_far ?_ NB187_191.out _; (with_reducible repeat (first | refine blk_drewN ?_ _ | refine blk_drew ?_ | refine blk_alloc ?_ _)); exact BK187.out⟩
              have n2_ : Aside0 (((((w16.setCell ⟨gb191, 0, none⟩ (.int .u8 ((rd_T25 l0_3 x16_1).f0))).setCell ⟨gb191, 1, none⟩ (.int .u64 ((rd_T25 l0_3 x16_1).f1))).setCell ⟨gb191, 2, none⟩ (.string ((rd_T25 l0_3 x16_1).f2))).setCell ⟨gb191, 3, none⟩ (.slice A190_3 ((rd_T25 l0_3 x16_1).f3).length c190_3)).heap[gb188]? = some (.cells #[.int .u8 0, .int .u64 0, .string (⟨#[]⟩ : ByteArray), .slice none 0 0] 47 (0, 0))) := ⟨by (with_reducible repeat (first | refine blk_drewN ?_ _ | refine blk_drew ?_ | refine blk_alloc ?_ _)); refine blk_far ?_ NB188_191.out _; (with_reducible repeat (first | refine blk_drewN ?_ _ | refine blk_drew ?_ | refine blk_alloc ?_ _)); refine blk_far ?_ NB188_191.out _; (with_reducible repeat (first | refine blk_drewN ?_ _ | refine blk_drew ?_ | refine blk_alloc ?_ _)); refine blk_far ?_ NB188_191.out _; (with_reducible repeat (first | refine blk_drewN ?_ _ | refine blk_drew ?_ | refine blk_alloc ?_ _)); refine blk_far ?_ NB188_191.out _; (with_reducible repeat (first | refine blk_drewN ?_ _ | refine blk_drew ?_ | refine blk_alloc ?_ _)); exact BK188.out⟩
              have n3_ : Aside0 (((((w16.setCell ⟨gb191, 0, none⟩ (.int .u8 ((rd_T25 l0_3 x16_1).f0))).setCell ⟨gb191, 1, none⟩ (.int .u64 ((rd_T25 l0_3 x16_1).f1))).setCell ⟨gb191, 2, none⟩ (.string ((rd_T25 l0_3 x16_1).f2))).setCell ⟨gb191, 3, none⟩ (.slice A190_3 ((rd_T25 l0_3 x16_1).f3).length c190_3)).heap[gb189]? = some (.cells #[.int .u8 a0_0, .int .u64 a0_1, .string a0_2, u190003] 47 (0, 0))) := ⟨by (with_reducible repeat (first | refine blk_drewN ?_ _ | refine blk_drew ?_ | refine blk_alloc ?_ _)); refine blk_far ?_ NB189_191.out _; (with_reducible repeat (first | refine blk_drewN ?_ _ | refine blk_drew ?_ | refine blk_alloc ?_ _)); refine blk_far ?_ NB189_191.out _; (with_reducible repeat (first | refine blk_drewN ?_ _ | refine blk_drew ?_ | refine blk_alloc ?_ _)); refine blk_far ?_ NB189_191.out _; (with_reducible repeat (first | refine blk_drewN ?_ _ | refine blk_drew ?_ | refine blk_alloc ?_ _)); refine blk_far ?_ NB189_191.out _; (with_reducible repeat (first | refine blk_drewN ?_ _ | refine blk_drew ?_ | refine blk_alloc ?_ _)); exact BK189.out⟩
              have n4_ : Aside0 (((((w16.setCell ⟨gb191, 0, none⟩ (.int .u8 ((rd_T25 l0_3 x16_1).f0))).setCell ⟨gb191, 1, none⟩ (.int .u64 ((rd_T25 l0_3 x16_1).f1))).setCell ⟨gb191, 2, none⟩ (.string ((rd_T25 l0_3 x16_1).f2))).setCell ⟨gb191, 3, none⟩ (.slice A190_3 ((rd_T25 l0_3 x16_1).f3).length c190_3)).heap[gb191]? = some (.cells #[.int .u8 ((rd_T25 l0_3 x16_1).f0), .int .u64 ((rd_T25 l0_3 x16_1).f1), .string ((rd_T25 l0_3 x16_1).f2), .slice A190_3 ((rd_T25 l0_3 x16_1).f3).length c190_3] 25 (0, 0))) := ⟨by (with_reducible repeat (first | refine blk_drewN ?_ _ | refine blk_drew ?_ | refine blk_alloc ?_ _)); refine blk_put (cs := #[.int .u8 ((rd_T25 l0_3 x16_1).f0), .int .u64 ((rd_T25 l0_3 x16_1).f1), .string ((rd_T25 l0_3 x16_1).f2), .slice none 0 0]) ?_ 3 _ rfl; (with_reducible repeat (first | refine blk_drewN ?_ _ | refine blk_drew ?_ | refine blk_alloc ?_ _)); refine blk_put (cs := #[.int .u8 ((rd_T25 l0_3 x16_1).f0), .int .u64 ((rd_T25 l0_3 x16_1).f1), .string (⟨#[]⟩ : ByteArray), .slice none 0 0]) ?_ 2 _ rfl; (with_reducible repeat (first | refine blk_drewN ?_ _ | refine blk_drew ?_ | refine blk_alloc ?_ _)); refine blk_put (cs := #[.int .u8 ((rd_T25 l0_3 x16_1).f0), .int .u64 0, .string (⟨#[]⟩ : ByteArray), .slice none 0 0]) ?_ 1 _ rfl; (with_reducible repeat (first | refine blk_drewN ?_ _ | refine blk_drew ?_ | refine blk_alloc ?_ _)); refine blk_put (cs := #[.int .u8 0, .int .u64 0, .string (⟨#[]⟩ : ByteArray), .slice none 0 0]) ?_ 0 _ rfl; (with_reducible repeat (first | refine blk_drewN ?_ _ | refine blk_drew ?_ | refine blk_alloc ?_ _)); exact BK191.out⟩
              have n5_ : Aside0 (Below w.heap.size w ((((w16.setCell ⟨gb191, 0, none⟩ (.int .u8 ((rd_T25 l0_3 x16_1).f0))).setCell ⟨gb191, 1, none⟩ (.int .u64 ((rd_T25 l0_3 x16_1).f1))).setCell ⟨gb191, 2, none⟩ (.string ((rd_T25 l0_3 x16_1).f2))).setCell ⟨gb191, 3, none⟩ (.slice A190_3 ((rd_T25 l0_3 x16_1).f3).length c190_3))) := ⟨by repeat (first | (with_reducible first | exact HB.out | apply below_alloc | apply pw_below_drewN | apply below_drew1 | refine below_set ?_ GE187.out | refine below_set ?_ GE188.out | refine below_set ?_ GE189.out | refine below_set ?_ GE191.out) | exact HB.out)⟩
              (try clear HO_190003)
              (try clear BK187)
              (try clear BK188)
              (try clear BK189)
              (try clear BK191)
              (try clear HB)
              generalize ((((w16.setCell ⟨gb191, 0, none⟩ (.int .u8 ((rd_T25 l0_3 x16_1).f0))).setCell ⟨gb191, 1, none⟩ (.int .u64 ((rd_T25 l0_3 x16_1).f1))).setCell ⟨gb191, 2, none⟩ (.string ((rd_T25 l0_3 x16_1).f2))).setCell ⟨gb191, 3, none⟩ (.slice A190_3 ((rd_T25 l0_3 x16_1).f3).length c190_3)) = w21 at n0_ n1_ n2_ n3_ n4_ n5_ ⊢
              have HO_190003 := n0_
              have BK187 := n1_
              have BK188 := n2_
              have BK189 := n3_
              have BK191 := n4_
              have HB := n5_
              clear n0_ n1_ n2_ n3_ n4_ n5_
              have n0_ := Aside0.mk (Kd.R_drew HO_190003.out)
              have n1_ := Aside0.mk (blk_drew BK187.out)
              have n2_ := Aside0.mk (blk_drew BK188.out)
              have n3_ := Aside0.mk (blk_drew BK189.out)
              have n4_ := Aside0.mk (blk_drew BK191.out)
              have n5_ := Aside0.mk (below_drew1 HB.out)
              clear HO_190003
              clear BK187
              clear BK188
              clear BK189
              clear BK191
              clear HB
              have HO_190003 := n0_
              have BK187 := n1_
              have BK188 := n2_
              have BK189 := n3_
              have BK191 := n4_
              have HB := n5_
              clear n0_ n1_ n2_ n3_ n4_ n5_
              refine start_ (n := 8) (S := fun w' => w'.cell? ⟨gb189, 0, none⟩ = some (.int .u8 a0_0) ∧ w'.cell? ⟨gb189, 1, none⟩ = some (.int .u64 a0_1) ∧ w'.cell? ⟨gb189, 2, none⟩ = some (.string a0_2) ∧ w'.cell? ⟨gb189, 3, none⟩ = some (u190003) ∧ w'.cell? ⟨gb191, 0, none⟩ = some (.int .u8 ((rd_T25 l0_3 x16_1).f0)) ∧ w'.cell? ⟨gb191, 1, none⟩ = some (.int .u64 ((rd_T25 l0_3 x16_1).f1)) ∧ w'.cell? ⟨gb191, 2, none⟩ = some (.string ((rd_T25 l0_3 x16_1).f2)) ∧ w'.cell? ⟨gb191, 3, none⟩ = some (.slice A190_3 ((rd_T25 l0_3 x16_1).f3).length c190_3)) (ds := [7]) #[false, false, false, false, false, false, false, false] (by kernel_rfl) rfl rfl ⟨(blk_cell BK189.out 0).trans rfl, (blk_cell BK189.out 1).trans rfl, (blk_cell BK189.out 2).trans rfl, (blk_cell BK189.out 3).trans rfl, (blk_cell BK191.out 0).trans rfl, (blk_cell BK191.out 1).trans rfl, (blk_cell BK191.out 2).trans rfl, (blk_cell BK191.out 3).trans rfl⟩ (fun hHeld => ?_); refine with_tabW impl_valIn.tab5 impl_valIn.bits5 (fun HT_ HW_ => ?_)
              generalize w21.drew = w22 at HO_190003 BK187 BK188 BK189 BK191 HB hHeld ⊢
              refine pure_ (i := 0) (N := some 20) (v := ?_) (a' := ?_) #[true, false, false, false, false, false, false, false] rfl rfl (any_of HT_.out (by kernel_rfl)) (fun _ _ _ h => h) (Or.inl ⟨by rfl, ?_⟩) ?_ ?_
              rotate_left
              · intro w'
                go_simp
                with_reducible rfl
              rotate_left
              · simp only [Act.put, List.setIfInBounds_toArray, List.set_cons_zero, List.set_cons_succ, i64_w, i32_w]
                rfl
              refine take_ (i := 1) (N := some 21) (v := ?_) (a' := ?_) #[true, true, false, false, false, false, false, false] rfl rfl (take_ofW HT_.out HW_.out (by kernel_rfl)) (fun _ _ _ h => h) (Or.inl ⟨by rfl, ?_⟩) hHeld ?_ ?_
              rotate_left
              · rintro w' ⟨s0, s1, s2, s3, s4, s5, s6, s7⟩
                go_simp
                with_reducible rfl
              rotate_left
              · simp only [Act.put, List.setIfInBounds_toArray, List.set_cons_zero, List.set_cons_succ, i64_w, i32_w]
                rfl
              refine take_ (i := 2) (N := some 22) (v := ?_) (a' := ?_) #[true, true, true, false, false, false, false, false] rfl rfl (take_ofW HT_.out HW_.out (by kernel_rfl)) (fun _ _ _ h => h) (Or.inl ⟨by rfl, ?_⟩) hHeld ?_ ?_
              rotate_left
              · rintro w' ⟨s0, s1, s2, s3, s4, s5, s6, s7⟩
                go_simp
                with_reducible rfl
              rotate_left
              · simp only [Act.put, List.setIfInBounds_toArray, List.set_cons_zero, List.set_cons_succ, i64_w, i32_w]
                rfl
              refine one_ (i := 3) (N := some 23) #[true, true, true, true, false, false, false, false] rfl rfl (one_of HT_.out (by kernel_rfl)) (by decide) (fun K hK => ?_)
              refine goes_ Tryd.func20 (by kernel_rfl) rfl #[.agg #[.int .u8 ((rd_T25 l0_3 x16_1).f0), .int .u64 ((rd_T25 l0_3 x16_1).f1), .string ((rd_T25 l0_3 x16_1).f2), .slice A190_3 ((rd_T25 l0_3 x16_1).f3).length c190_3]] (by rfl) rfl rfl (by (try simp only [List.map_toArray, List.map_cons, List.map_nil]); first | done | rfl | (simp only [List.length_drop, List.length_take]; rfl)) ?_
              with_reducible refine (ih k1 (by have := HK1.out; omega) ((rd_T25 l0_3 x16_1).f0) ((rd_T25 l0_3 x16_1).f1) ((rd_T25 l0_3 x16_1).f2) _ _ ((rd_T25 l0_3 x16_1).f3) t192 t193 t194 t195 _ ?side1 ?side2 A14.out).mono ?_
              (case side1 => repeat (first | exact (Kd.C_below HR190_3.out HB.out) | (with_reducible refine Kd.C_alloc ?_ _) | (with_reducible refine Kd.C_drewN ?_ _) | (with_reducible refine Kd.C_drew ?_)))
              (case side2 => exact HC190_3.out)
              rintro e w23 ⟨v196, rfl, ho0, hb⟩
              refine ⟨_, rfl, ?_⟩
              have n0_ := Aside0.mk (Kd.R_elder' (by (with_reducible repeat (first | apply Kd.R_alloc | apply Kd.R_drewN | apply Kd.R_drew)); exact HO_190003.out) (Kd.R_base ho0) hb)
              have n1_ := Aside0.mk (Kd.R_lower (Kd.R_newB (Kd.R_newB (Kd.R_new' ho0 (Kd.R_lt (by (with_reducible repeat (first | apply Kd.R_alloc | apply Kd.R_drewN | apply Kd.R_drew)); exact HO_190003.out))) (g := gb188) (o := .cells #[.int .u8 0, .int .u64 0, .string (⟨#[]⟩ : ByteArray), .slice none 0 0] 47 (0, 0)) (by (with_reducible repeat (first | refine blk_drewN ?_ _ | refine blk_drew ?_ | refine blk_alloc ?_ _)); exact BK188.out)) (g := gb189) (o := .cells #[.int .u8 a0_0, .int .u64 a0_1, .string a0_2, u190003] 47 (0, 0)) (by (with_reducible repeat (first | refine blk_drewN ?_ _ | refine blk_drew ?_ | refine blk_alloc ?_ _)); exact BK189.out)) (below_size (by repeat (first | (with_reducible first | exact HB.out | apply below_alloc | apply pw_below_drewN | apply below_drew1 | refine below_set ?_ GE187.out | refine below_set ?_ GE188.out | refine below_set ?_ GE189.out | refine below_set ?_ GE191.out) | exact HB.out))))
              have n2_ := Aside0.mk (blk_below (g := gb187) (o := .cells #[.int .u8 a0_0, .int .u64 a0_1, .string a0_2, .slice (some ad190) l0_3.length c0_3] 25 (0, 0)) (by (with_reducible repeat (first | refine blk_drewN ?_ _ | refine blk_drew ?_ | refine blk_alloc ?_ _)); exact BK187.out) hb)
              have n3_ := Aside0.mk (blk_below (g := gb188) (o := .cells #[.int .u8 0, .int .u64 0, .string (⟨#[]⟩ : ByteArray), .slice none 0 0] 47 (0, 0)) (by (with_reducible repeat (first | refine blk_drewN ?_ _ | refine blk_drew ?_ | refine blk_alloc ?_ _)); exact BK188.out) hb)
              have n4_ := Aside0.mk (blk_below (g := gb189) (o := .cells #[.int .u8 a0_0, .int .u64 a0_1, .string a0_2, u190003] 47 (0, 0)) (by (with_reducible repeat (first | refine blk_drewN ?_ _ | refine blk_drew ?_ | refine blk_alloc ?_ _)); exact BK189.out) hb)
              have n5_ := Aside0.mk (blk_below (g := gb191) (o := .cells #[.int .u8 ((rd_T25 l0_3 x16_1).f0), .int .u64 ((rd_T25 l0_3 x16_1).f1), .string ((rd_T25 l0_3 x16_1).f2), .slice A190_3 ((rd_T25 l0_3 x16_1).f3).length c190_3] 25 (0, 0)) (by (with_reducible repeat (first | refine blk_drewN ?_ _ | refine blk_drew ?_ | refine blk_alloc ?_ _)); exact BK191.out) hb)
              have n6_ := Aside0.mk (below_step (by repeat (first | (with_reducible first | exact HB.out | apply below_alloc | apply pw_below_drewN | apply below_drew1 | refine below_set ?_ GE187.out | refine below_set ?_ GE188.out | refine below_set ?_ GE189.out | refine below_set ?_ GE191.out) | exact HB.out)) hb)
              clear HO_190003
              clear BK187
              clear BK188
              clear BK189
              clear BK191
              clear HB
              have HO_190003 := n0_
              have HO197 := n1_
              have BK187 := n2_
              have BK188 := n3_
              have BK189 := n4_
              have BK191 := n5_
              have HB := n6_
              clear n0_ n1_ n2_ n3_ n4_ n5_ n6_
              (try clear hb)
              (try clear hb2)
              (try clear hk)
              (try clear hi)
              (try clear ho0)
              obtain ⟨Ao25, co25, eo25⟩ := Kd.R_slice HO197.out
              (first | subst eo25 | (injection eo25 with f1_ f2_ f3_; have f4_ := f1_.symm; have f5_ := f3_.symm; clear f1_ f2_ f3_; subst f4_; subst f5_))
              refine hK.out _ _ ⟨(blk_cell BK189.out 0).trans rfl, (blk_cell BK189.out 1).trans rfl, (blk_cell BK189.out 2).trans rfl, (blk_cell BK189.out 3).trans rfl, (blk_cell BK191.out 0).trans rfl, (blk_cell BK191.out 1).trans rfl, (blk_cell BK191.out 2).trans rfl, (blk_cell BK191.out 3).trans rfl⟩ (fun hHeld => ?_)
              clear hK K
              refine norm_ (a' := ?_) ?_ ?_
              rotate_left
              · show Act.put _ (some 23) _ = _
                simp only [Act.put, List.setIfInBounds_toArray, List.set_cons_zero, List.set_cons_succ, i64_w, i32_w]
                rfl
              refine one_ (i := 4) (N := some 24) #[true, true, true, true, true, false, false, false] rfl rfl (one_of HT_.out (by kernel_rfl)) (by decide) (fun K hK => ?_)
              refine value_ (w1 := ?_) (v := ?_) (by rfl) rfl ?_ ?_
              rotate_left 2
              · go_simp
                constructor
                · rfl
                · rfl
              refine hK.out _ _ ⟨(blk_cell (blk_alloc BK189.out _) 0).trans rfl, (blk_cell (blk_alloc BK189.out _) 1).trans rfl, (blk_cell (blk_alloc BK189.out _) 2).trans rfl, (blk_cell (blk_alloc BK189.out _) 3).trans rfl, (blk_cell (blk_alloc BK191.out _) 0).trans rfl, (blk_cell (blk_alloc BK191.out _) 1).trans rfl, (blk_cell (blk_alloc BK191.out _) 2).trans rfl, (blk_cell (blk_alloc BK191.out _) 3).trans rfl⟩ (fun hHeld => ?_)
              clear hK K
              refine norm_ (a' := ?_) ?_ ?_
              rotate_left
              · show Act.put _ (some 24) _ = _
                simp only [Act.put, List.setIfInBounds_toArray, List.set_cons_zero, List.set_cons_succ, i64_w, i32_w]
                rfl
              refine one_ (i := 5) (N := some 25) #[true, true, true, true, true, true, false, false] rfl rfl (one_of HT_.out (by kernel_rfl)) (by decide) (fun K hK => ?_)
              refine Kd.R_append_step k47 (w0 := w) w.heap.size (by rfl) (.tmp 21) (.tmp 24) 36 47 (.agg #[(.int .u8 0), (.int .u64 0), (.string ⟨#[]⟩), (.slice none 0 0)]) 56 rfl Tryd.underlying36 info47 rfl (by decide) (by omega) u190003 x190003_1 (⟨t192, t193, t194, t195⟩ : S47) [.int .u8 t192, .int .u64 t193, .string t194, .slice Ao25 t195.length co25] (fun k_ => k_ ≠ gb188 ∧ k_ ≠ gb189) (fun k_ => ((fun k_ => k_ ≠ gb188 ∧ k_ ≠ gb189)) k_ ∧ some k_ ≠ (u190003 : Value).ownBlock) rfl rfl ?aP (fun _ hk => hk) ?aF ?aO ?aB ?aS ?aL ?_
              (case aP => exact k47_mkM _ _ _ (⟨t192, t193, t194, t195⟩ : S47) (Kd.R_mono (HO197.out) (fun k_ hk => ⟨⟨hk.1.2, hk.2⟩, hk.1.1.2⟩)))
              (case aB => exact (by repeat (first | (with_reducible first | exact HB.out | apply below_alloc | apply pw_below_drewN | apply below_drew1 | refine below_set ?_ GE187.out | refine below_set ?_ GE188.out | refine below_set ?_ GE189.out | refine below_set ?_ GE191.out) | exact HB.out)))
              (case aF => exact (fun k_ hk => ⟨Kd.freshB (g := gb188) (o := .cells #[.int .u8 0, .int .u64 0, .string (⟨#[]⟩ : ByteArray), .slice none 0 0] 47 (0, 0)) (by (with_reducible repeat (first | refine blk_drewN ?_ _ | refine blk_drew ?_ | refine blk_alloc ?_ _)); exact BK188.out) k_ hk, Kd.freshB (g := gb189) (o := .cells #[.int .u8 a0_0, .int .u64 a0_1, .string a0_2, u190003] 47 (0, 0)) (by (with_reducible repeat (first | refine blk_drewN ?_ _ | refine blk_drew ?_ | refine blk_alloc ?_ _)); exact BK189.out) k_ hk⟩))
              (case aO => exact (by (with_reducible repeat (first | apply Kd.R_alloc | apply Kd.R_drewN | apply Kd.R_drew)); exact Kd.R_mono HO_190003.out (fun _ hk => ⟨hk.1.1, hk.1.2⟩)))
              (case aS => exact (below_size (by repeat (first | (with_reducible first | exact HB.out | apply below_alloc | apply pw_below_drewN | apply below_drew1 | refine below_set ?_ GE187.out | refine below_set ?_ GE188.out | refine below_set ?_ GE189.out | refine below_set ?_ GE191.out) | exact HB.out))))
              (case aL => have := LMc15.out; omega)
              intro v199 w24 ho hb hg hat
              rw [← Ny198.out] at ho
              have n0_ := Aside0.mk (blk_grown (g := gb187) (o := .cells #[.int .u8 a0_0, .int .u64 a0_1, .string a0_2, .slice (some ad190) l0_3.length c0_3] 25 (0, 0)) (by (with_reducible repeat (first | refine blk_drewN ?_ _ | refine blk_drew ?_ | refine blk_alloc ?_ _)); exact BK187.out) hg (Kd.R_ne HO_190003.out BK187.out (by decide)))
              have n1_ := Aside0.mk (blk_grown (g := gb188) (o := .cells #[.int .u8 0, .int .u64 0, .string (⟨#[]⟩ : ByteArray), .slice none 0 0] 47 (0, 0)) (by (with_reducible repeat (first | refine blk_drewN ?_ _ | refine blk_drew ?_ | refine blk_alloc ?_ _)); exact BK188.out) hg (Kd.R_away HO_190003.out (fun _ hk => hk.1.1)))
              have n2_ := Aside0.mk (blk_grown (g := gb189) (o := .cells #[.int .u8 a0_0, .int .u64 a0_1, .string a0_2, u190003] 47 (0, 0)) (by (with_reducible repeat (first | refine blk_drewN ?_ _ | refine blk_drew ?_ | refine blk_alloc ?_ _)); exact BK189.out) hg (Kd.R_away HO_190003.out (fun _ hk => hk.1.2)))
              have n3_ := Aside0.mk (blk_grown (g := gb191) (o := .cells #[.int .u8 ((rd_T25 l0_3 x16_1).f0), .int .u64 ((rd_T25 l0_3 x16_1).f1), .string ((rd_T25 l0_3 x16_1).f2), .slice A190_3 ((rd_T25 l0_3 x16_1).f3).length c190_3] 25 (0, 0)) (by (with_reducible repeat (first | refine blk_drewN ?_ _ | refine blk_drew ?_ | refine blk_alloc ?_ _)); exact BK191.out) hg (Kd.R_ne HO_190003.out BK191.out (by decide)))
              have n4_ := Aside0.mk (hb)
              have n5_ := Aside0.mk (ho)
              clear BK187
              clear BK188
              clear BK189
              clear BK191
              clear HB
              clear HO_190003
              clear HO197
              have BK187 := n0_
              have BK188 := n1_
              have BK189 := n2_
              have BK191 := n3_
              have HB := n4_
              have HO200 := n5_
              clear n0_ n1_ n2_ n3_ n4_ n5_
              clear ho hb hg hat
              obtain ⟨Ao26, co26, eo26⟩ := Kd.R_slice HO200.out
              (first | subst eo26 | (injection eo26 with f1_ f2_ f3_; have f4_ := f1_.symm; have f5_ := f3_.symm; clear f1_ f2_ f3_; subst f4_; subst f5_))
              refine hK.out _ _ ⟨(blk_cell BK189.out 0).trans rfl, (blk_cell BK189.out 1).trans rfl, (blk_cell BK189.out 2).trans rfl, (blk_cell BK189.out 3).trans rfl, (blk_cell BK191.out 0).trans rfl, (blk_cell BK191.out 1).trans rfl, (blk_cell BK191.out 2).trans rfl, (blk_cell BK191.out 3).trans rfl⟩ (fun hHeld => ?_)
              clear hK K
              refine norm_ (a' := ?_) ?_ ?_
              rotate_left
              · show Act.put _ (some 25) _ = _
                simp only [Act.put, List.setIfInBounds_toArray, List.set_cons_zero, List.set_cons_succ, i64_w, i32_w]
                rfl
              refine pure_ (i := 6) (N := some 26) (v := ?_) (a' := ?_) #[true, true, true, true, true, true, true, false] rfl rfl (any_of HT_.out (by kernel_rfl)) (fun _ _ _ h => h) (Or.inl ⟨by rfl, ?_⟩) ?_ ?_
              rotate_left
              · intro w'
                go_simp
                with_reducible rfl
              rotate_left
              · simp only [Act.put, List.setIfInBounds_toArray, List.set_cons_zero, List.set_cons_succ, i64_w, i32_w]
                rfl
              refine last_ (i := 7) (N := none) #[true, true, true, true, true, true, true, true] rfl rfl (one_of HT_.out (by kernel_rfl)) (by decide) (fun K hK => ?_)
              have hs27 : w24.cell? ⟨gb189, 3, none⟩ = some (u190003) := (blk_cell BK189.out 3).trans rfl
              have hfs27 := blk_frozen BK189.out 3
              have hns27_0 := NB187_189.out
              have hns27_1 := NB188_189.out
              have hns27_3 := NB191_189.out
              have hms27_0 := NB189_187.out
              have hms27_1 := NB189_188.out
              have hms27_3 := NB189_191.out
              refine skip_ (w1 := ?_) (by rfl) rfl ?_ ?_
              rotate_left
              · go_simp
                rfl
              refine hK.out _ _ ?_
              clear hK K
              refine done_ (done_of HT_.out (by kernel_rfl)) ?_
              try go_wp2
              go_roundg k1
              case measure => have := HK1.out; omega
              case rel => exact ⟨(wrap64 (x16_1 + 1)), (y198), (.slice Ao26 y198.length co26), (by first | rfl | (simp; done) | (simp [*]; done)), H', ⟨by have := HK1.out; omega⟩, ⟨by (with_reducible repeat (first | apply Kd.R_alloc | apply Kd.R_drewN | apply Kd.R_drew)); exact Kd.R_mono (Kd.R_far (p := ⟨gb189, 3, none⟩) (Kd.R_mono HO200.out (fun k_ hk => (⟨hk, hk.2⟩ : _ ∧ k_ ≠ gb189))) (fun _ hk => hk.2) (.slice Ao26 y198.length co26)) (fun _ hk => ⟨hk.1.1, hk.1.2⟩)⟩, ⟨by (with_reducible repeat (first | refine blk_drewN ?_ _ | refine blk_drew ?_ | refine blk_alloc ?_ _)); refine blk_far ?_ NB187_189.out _; (with_reducible repeat (first | refine blk_drewN ?_ _ | refine blk_drew ?_ | refine blk_alloc ?_ _)); exact BK187.out⟩, ⟨by (with_reducible repeat (first | refine blk_drewN ?_ _ | refine blk_drew ?_ | refine blk_alloc ?_ _)); refine blk_far ?_ NB188_189.out _; (with_reducible repeat (first | refine blk_drewN ?_ _ | refine blk_drew ?_ | refine blk_alloc ?_ _)); exact BK188.out⟩, ⟨by (with_reducible repeat (first | refine blk_drewN ?_ _ | refine blk_drew ?_ | refine blk_alloc ?_ _)); refine blk_put (cs := #[.int .u8 a0_0, .int .u64 a0_1, .string a0_2, u190003]) ?_ 3 _ rfl; (with_reducible repeat (first | refine blk_drewN ?_ _ | refine blk_drew ?_ | refine blk_alloc ?_ _)); exact BK189.out⟩, ⟨by repeat (first | (with_reducible first | exact HB.out | apply below_alloc | apply pw_below_drewN | apply below_drew1 | refine below_set ?_ GE187.out | refine below_set ?_ GE188.out | refine below_set ?_ GE189.out | refine below_set ?_ GE191.out) | exact HB.out)⟩⟩
            · rw [if_neg c15] at H
              exact absurd H (by simp)
          · rw [if_neg c13] at H
            exact absurd H (by simp)
        · rw [if_neg c12] at H
          exact absurd H (by simp)
      · rw [if_neg c11] at H
        have c11b0 : decide (x16_1 < (l0_3.length : Int)) = false := decide_eq_false c11
        clear c11
        simp only [Option.some.injEq, Prod.mk.injEq] at H
        obtain ⟨rfl, rfl, rfl, rfl⟩ := H
        have hnb28 := NB189_187.out
        have hnc28 := NB187_189.out
        have hnb29 := NB189_188.out
        have hnc29 := NB188_189.out
        have hcz30_0 : wr.cell? ⟨gb189, 0, none⟩ = some (.int .u8 a0_0) := (blk_cell BK189.out 0).trans rfl
        have hcz30_1 : wr.cell? ⟨gb189, 1, none⟩ = some (.int .u64 a0_1) := (blk_cell BK189.out 1).trans rfl
        have hcz30_2 : wr.cell? ⟨gb189, 2, none⟩ = some (.string a0_2) := (blk_cell BK189.out 2).trans rfl
        have hcz30_3 : wr.cell? ⟨gb189, 3, none⟩ = some (u190003) := (blk_cell BK189.out 3).trans rfl
        have hfz30_0 := blk_frozen BK189.out 0
        have hfz30_1 := blk_frozen BK189.out 1
        have hfz30_2 := blk_frozen BK189.out 2
        have hfz30_3 := blk_frozen BK189.out 3
        have hnb31 := NB188_187.out
        have hnc31 := NB187_188.out
        have hcz32_0 : wr.cell? ⟨gb188, 0, none⟩ = some (.int .u8 0) := (blk_cell BK188.out 0).trans rfl
        have hcz32_1 : wr.cell? ⟨gb188, 1, none⟩ = some (.int .u64 0) := (blk_cell BK188.out 1).trans rfl
        have hcz32_2 : wr.cell? ⟨gb188, 2, none⟩ = some (.string (⟨#[]⟩ : ByteArray)) := (blk_cell BK188.out 2).trans rfl
        have hcz32_3 : wr.cell? ⟨gb188, 3, none⟩ = some (.slice none 0 0) := (blk_cell BK188.out 3).trans rfl
        have hfz32_0 := blk_frozen BK188.out 0
        have hfz32_1 := blk_frozen BK188.out 1
        have hfz32_2 := blk_frozen BK188.out 2
        have hfz32_3 := blk_frozen BK188.out 3
        obtain ⟨Ao33, co33, eo33⟩ := Kd.R_slice HO_190003.out
        subst eo33
        go_wp2
        refine bodyPost_ret (results_cell_row rfl _ _ gb188 47 #[.int .u8 a0_0, .int .u64 a0_1, .string a0_2, .slice Ao33 x190003_1.length co33] (0, 0) _ rfl (by (with_reducible repeat (first | refine blk_drewN ?_ _ | refine blk_drew ?_ | refine blk_alloc ?_ _)); refine blk_put (cs := #[.int .u8 a0_0, .int .u64 a0_1, .string a0_2, .slice none 0 0]) ?_ 3 _ rfl; (with_reducible repeat (first | refine blk_drewN ?_ _ | refine blk_drew ?_ | refine blk_alloc ?_ _)); refine blk_put (cs := #[.int .u8 a0_0, .int .u64 a0_1, .string (⟨#[]⟩ : ByteArray), .slice none 0 0]) ?_ 2 _ rfl; (with_reducible repeat (first | refine blk_drewN ?_ _ | refine blk_drew ?_ | refine blk_alloc ?_ _)); refine blk_put (cs := #[.int .u8 a0_0, .int .u64 0, .string (⟨#[]⟩ : ByteArray), .slice none 0 0]) ?_ 1 _ rfl; (with_reducible repeat (first | refine blk_drewN ?_ _ | refine blk_drew ?_ | refine blk_alloc ?_ _)); refine blk_put (cs := #[.int .u8 0, .int .u64 0, .string (⟨#[]⟩ : ByteArray), .slice none 0 0]) ?_ 0 _ rfl; (with_reducible repeat (first | refine blk_drewN ?_ _ | refine blk_drew ?_ | refine blk_alloc ?_ _)); exact BK188.out) Tryd.underlying47 rfl (by kernel_rfl)) rfl ?_
        exact ⟨_, by first | rfl | (simp [errW_none, errW_some] <;> rfl) | (simp [*, errW_none, errW_some] <;> rfl), by (with_reducible repeat (first | apply Kd.R_alloc | apply Kd.R_drewN | apply Kd.R_drew)); exact Kd.R_mono (Kd.R_far (p := ⟨gb188, 3, none⟩) (Kd.R_far (p := ⟨gb188, 2, none⟩) (Kd.R_far (p := ⟨gb188, 1, none⟩) (Kd.R_far (p := ⟨gb188, 0, none⟩) (Kd.R_mono HO_190003.out (fun k_ hk => (⟨hk, hk.1⟩ : _ ∧ k_ ≠ gb188))) (fun _ hk => hk.2) (.int .u8 a0_0)) (fun _ hk => hk.2) (.int .u64 a0_1)) (fun _ hk => hk.2) (.string a0_2)) (fun _ hk => hk.2) (.slice Ao33 x190003_1.length co33)) (fun _ hk => trivial), by repeat (first | (with_reducible first | exact HB.out | apply below_alloc | apply pw_below_drewN | apply below_drew1 | refine below_set ?_ GE187.out | refine below_set ?_ GE188.out | refine below_set ?_ GE189.out) | exact HB.out)⟩
def impl_valsIn.l0 : Nat → List (S47) → List (S25) → Int → Int → Option ((List (S47)))
  | 0, _, _, _, _ => none
  | k + 1, x3, x6, x7, x8 => if x8 < x7 then (if 0 ≤ x8 then (if x8 < (x6.length : Int) then ((impl_valIn.f k ((rd_T25 x6 x8).f0) ((rd_T25 x6 x8).f1) ((rd_T25 x6 x8).f2) ((rd_T25 x6 x8).f3)).bind fun bt203 => (if x3.length < 2513169434916 then (impl_valsIn.l0 k (x3 ++ [(⟨bt203.1, bt203.2.1, bt203.2.2.1, bt203.2.2.2⟩ : S47)]) x6 x7 (wrap64 (x8 + 1))) else (none))) else (none)) else (none)) else (some x3)
def impl_valsIn.f (k : Nat) (l0 : List (S25)) : Option ((List (S47))) := impl_valsIn.l0 k ([] : List (S47)) l0 (l0.length : Int) 0
set_option maxHeartbeats 8000000 in
set_option maxRecDepth 100000 in
theorem impl_valsIn.calls (k : Nat) (A0 : Option Addr) (c0 : Nat) (l0 : List (S25)) (r : List (S47)) (w : World) (hr0 : Kd.C k25 w A0 l0.length l0) (hc0 : l0.length ≤ c0) (h : impl_valsIn.f k l0 = some r) :
    Calls Tryd.prog 12 #[.slice A0 l0.length c0] w fun e w' => ∃ v0_ : Value, e = .returned (v0_) ∧ Kd.R k47 47 w' w.heap.size (fun _ => True) v0_ r ∧ Below w.heap.size w w' := by
  have hu25 := Tryd.underlying25
  have HR0 := Aside0.mk hr0
  have HC0 := Aside0.mk hc0
  clear hr0 hc0
  have HB := Aside0.mk (Below.refl w.heap.size w)
  have H : (impl_valsIn.l0 k ([] : List (S47)) l0 (l0.length : Int) 0) = some r := h
  clear h
  have H' := Aside0.mk H
  clear H
  go_enter Tryd.func12, Tryd.ntmps12
  go_wp2
  go_loopg [3, 8] k (fun kq v3 v8 w' => ∃ (x3_1 : List (S47)) (x8_1 : Int), v8 = .int .i64 x8_1 ∧ Aside0 (impl_valsIn.l0 kq x3_1 l0 (l0.length : Int) x8_1 = some r) ∧ Aside0 (kq ≤ k) ∧ Aside0 (Kd.R k47 47 w' w.heap.size (fun _ => True) v3 x3_1) ∧ Aside0 (Below w.heap.size w w'))
  case atStart => exact ⟨(([] : List (S47))), (0), (by first | rfl | (simp; done) | (simp [*]; done)), H', ⟨Nat.le_refl _⟩, ⟨by first | exact Kd.R_nil _ _ _ _ _ | exact Kd.N_nil _ _ _ _ _ | exact Kd.V_nil _ _ _ _ _ | exact Kd.Q_nil _ _ _ _ _ | exact Kd.S_nil _ _ _ _ _⟩, ⟨by repeat (first | (with_reducible first | exact HB.out | apply below_alloc | apply pw_below_drewN | apply below_drew1) | exact HB.out)⟩⟩
  case round =>
    clear H'
    try clear c1
    obtain ⟨x3_1, x8_1, rfl, HA, HK1, HO_3, HB⟩ := hrel
    cases gk with
    | zero => exact absurd HA.out (by simp [impl_valsIn.l0])
    | succ k1 =>
      have H := HA.out
      clear HA
      simp only [impl_valsIn.l0] at H
      by_cases c2 : x8_1 < (l0.length : Int)
      · rw [if_pos c2] at H
        have c2b0 : decide (x8_1 < (l0.length : Int)) = true := decide_eq_true c2
        clear c2
        by_cases c3 : 0 ≤ x8_1
        · rw [if_pos c3] at H
          have c3b0 : decide (0 ≤ x8_1) = true := decide_eq_true c3
          clear c3
          by_cases c4 : x8_1 < (l0.length : Int)
          · rw [if_pos c4] at H
            have c4b0 : decide (x8_1 < (l0.length : Int)) = true := decide_eq_true c4
            clear c4
            replace H := Option.bind_eq_some_iff.mp H
            obtain ⟨⟨t203, t204, t205, t206⟩, A50, H⟩ := H
            replace H : (if x3_1.length < 2513169434916 then (impl_valsIn.l0 k1 (x3_1 ++ [(⟨t203, t204, t205, t206⟩ : S47)]) l0 (l0.length : Int) (wrap64 (x8_1 + 1))) else (none)) = some r := H
            have A5 := Aside0.mk A50
            clear A50
            by_cases c6 : x3_1.length < 2513169434916
            · rw [if_pos c6] at H
              have LMc6 := Aside0.mk c6
              clear c6
              obtain ⟨y209, hy209⟩ : ∃ y_ : List (S47), y_ = (x3_1 ++ [(⟨t203, t204, t205, t206⟩ : S47)]) := ⟨_, rfl⟩
              replace H : (impl_valsIn.l0 k1 y209 l0 (l0.length : Int) (wrap64 (x8_1 + 1))) = some r := by first | (rw [hy209]; with_reducible exact H) | (have H2_ := (Option.bind_some _ _).symm.trans H; rw [hy209]; with_reducible exact H2_) | (have H2_ := (Option.bind_some _ _).symm.trans H; with_reducible exact H2_) | with_reducible exact H | (rw [hy209]; exact H) | exact H
              have Ny209 := Aside0.mk hy209
              clear hy209
              have H' := Aside0.mk H
              clear H
              have p201 : 0 ≤ (x8_1 : Int) := of_decide_eq_true (by first | (with_reducible assumption) | assumption)
              have q201 : x8_1 < (l0.length : Int) := of_decide_eq_true (by first | (with_reducible assumption) | assumption)
              obtain ⟨ad201, A201_3, c201_3, e201, hx201_0, hx201_1, hx201_2, hx201_3, hl201_3, hi201_3⟩ := at_T25 HR0.out x8_1 p201 q201
              cases e201
              replace hx201_0 := (HB.out.cell (World.block_lt_of_cell? w _ hx201_0)).trans hx201_0
              replace hx201_1 := (HB.out.cell (World.block_lt_of_cell? w _ hx201_1)).trans hx201_1
              replace hx201_2 := (HB.out.cell (World.block_lt_of_cell? w _ hx201_2)).trans hx201_2
              replace hx201_3 := (HB.out.cell (World.block_lt_of_cell? w _ hx201_3)).trans hx201_3
              have HR201_3 := Aside0.mk hi201_3
              have HC201_3 := Aside0.mk hl201_3
              clear hi201_3 hl201_3
              replace p201 := eq_true p201
              replace q201 := eq_true q201
              go_wp2_with (first | ((with_reducible refine gate_dst (N := 5) rfl ?_); refine box_event ?hg (N := 5) ?hd (cs := #[.int .u8 0, .int .u64 0, .string (⟨#[]⟩ : ByteArray), .slice none 0 0]) (t := 25) ?hr ?_; (case hd => rfl); (case hg => rfl); (case hr => first | (go_simp; done) | (go_simp; rfl)); intro gb202 hg w7 hbox hb; have n0_ := Aside0.mk (Kd.R_below (by (with_reducible repeat (first | apply Kd.R_alloc | apply Kd.R_drewN | apply Kd.R_drew)); exact HO_3.out) hb); have n1_ := Aside0.mk (below_step (by repeat (first | (with_reducible first | exact HB.out | apply below_alloc | apply pw_below_drewN | apply below_drew1) | exact HB.out)) hb); have n2_ := Aside0.mk (hbox); have n3_ := Aside0.mk ((by rw [hg]; exact (below_size (by repeat (first | (with_reducible first | exact HB.out | apply below_alloc | apply pw_below_drewN | apply below_drew1) | exact HB.out))) : w.heap.size ≤ gb202)); have n4_ := Aside0.mk ((by rw [hg]; exact (below_size (by repeat (first | (with_reducible first | exact HB.out | apply below_alloc | apply pw_below_drewN | apply below_drew1) | exact HB.out))) : w.heap.size ≤ gb202)); clear HO_3; clear HB; have HO_3 := n0_; have HB := n1_; have BK202 := n2_; have GW202 := n3_; have GE202 := n4_; clear n0_ n1_ n2_ n3_ n4_; clear hb hbox hg; have hcz8_0 : w7.cell? ⟨gb202, 0, none⟩ = some (.int .u8 0) := (blk_cell BK202.out 0).trans rfl; have hcz8_1 : w7.cell? ⟨gb202, 1, none⟩ = some (.int .u64 0) := (blk_cell BK202.out 1).trans rfl; have hcz8_2 : w7.cell? ⟨gb202, 2, none⟩ = some (.string (⟨#[]⟩ : ByteArray)) := (blk_cell BK202.out 2).trans rfl; have hcz8_3 : w7.cell? ⟨gb202, 3, none⟩ = some (.slice none 0 0) := (blk_cell BK202.out 3).trans rfl; have hfz8_0 := blk_frozen BK202.out 0; have hfz8_1 := blk_frozen BK202.out 1; have hfz8_2 := blk_frozen BK202.out 2; have hfz8_3 := blk_frozen BK202.out 3) | ((with_reducible refine gate_callee (f := 20) rfl ?_); refine goesL_ (some 14) rfl rfl Tryd.func20 (by kernel_rfl) rfl #[.agg #[.int .u8 ((rd_T25 l0 x8_1).f0), .int .u64 ((rd_T25 l0 x8_1).f1), .string ((rd_T25 l0 x8_1).f2), .slice A201_3 ((rd_T25 l0 x8_1).f3).length c201_3]] rfl (by (try simp only [List.map_toArray, List.map_cons, List.map_nil]); first | done | rfl | (simp only [List.length_drop, List.length_take]; rfl)) ?_; (with_reducible refine (impl_valIn.calls k1 ((rd_T25 l0 x8_1).f0) ((rd_T25 l0 x8_1).f1) ((rd_T25 l0 x8_1).f2) _ _ ((rd_T25 l0 x8_1).f3) t203 t204 t205 t206 _ ?side1 ?side2 A5.out).mono ?_); (case side1 => exact Kd.C_below HR201_3.out (by repeat (first | (with_reducible first | exact HB.out | apply below_alloc | apply pw_below_drewN | apply below_drew1 | refine below_set ?_ GE202.out) | exact HB.out))); (case side2 => exact HC201_3.out); rintro e w9 ⟨v207, rfl, ho0, hb⟩; refine ⟨_, rfl, ?_⟩; have n0_ := Aside0.mk (Kd.R_elder' (by (with_reducible repeat (first | apply Kd.R_alloc | apply Kd.R_drewN | apply Kd.R_drew)); exact (Kd.R_mono (Kd.R_far (p := ⟨gb202, 3, none⟩) (Kd.R_far (p := ⟨gb202, 2, none⟩) (Kd.R_far (p := ⟨gb202, 1, none⟩) (Kd.R_far (p := ⟨gb202, 0, none⟩) (Kd.R_types HO_3.out BK202.out (by decide)) (fun _ hk => hk.2) (.int .u8 ((rd_T25 l0 x8_1).f0))) (fun _ hk => hk.2) (.int .u64 ((rd_T25 l0 x8_1).f1))) (fun _ hk => hk.2) (.string ((rd_T25 l0 x8_1).f2))) (fun _ hk => hk.2) (.slice A201_3 ((rd_T25 l0 x8_1).f3).length c201_3)) (fun _ h_ => h_.1))) (Kd.R_base ho0) hb); have n1_ := Aside0.mk (Kd.R_lower (Kd.R_new' ho0 (Kd.R_lt (by (with_reducible repeat (first | apply Kd.R_alloc | apply Kd.R_drewN | apply Kd.R_drew)); exact (Kd.R_mono (Kd.R_far (p := ⟨gb202, 3, none⟩) (Kd.R_far (p := ⟨gb202, 2, none⟩) (Kd.R_far (p := ⟨gb202, 1, none⟩) (Kd.R_far (p := ⟨gb202, 0, none⟩) (Kd.R_types HO_3.out BK202.out (by decide)) (fun _ hk => hk.2) (.int .u8 ((rd_T25 l0 x8_1).f0))) (fun _ hk => hk.2) (.int .u64 ((rd_T25 l0 x8_1).f1))) (fun _ hk => hk.2) (.string ((rd_T25 l0 x8_1).f2))) (fun _ hk => hk.2) (.slice A201_3 ((rd_T25 l0 x8_1).f3).length c201_3)) (fun _ h_ => h_.1))))) (below_size (by repeat (first | (with_reducible first | exact HB.out | apply below_alloc | apply pw_below_drewN | apply below_drew1 | refine below_set ?_ GE202.out) | exact HB.out)))); have n2_ := Aside0.mk (blk_below (g := gb202) (o := .cells #[.int .u8 ((rd_T25 l0 x8_1).f0), .int .u64 ((rd_T25 l0 x8_1).f1), .string ((rd_T25 l0 x8_1).f2), .slice A201_3 ((rd_T25 l0 x8_1).f3).length c201_3] 25 (0, 0)) (by (with_reducible repeat (first | refine blk_drewN ?_ _ | refine blk_drew ?_ | refine blk_alloc ?_ _)); refine blk_put (cs := #[.int .u8 ((rd_T25 l0 x8_1).f0), .int .u64 ((rd_T25 l0 x8_1).f1), .string ((rd_T25 l0 x8_1).f2), .slice none 0 0]) ?_ 3 _ rfl; (with_reducible repeat (first | refine blk_drewN ?_ _ | refine blk_drew ?_ | refine blk_alloc ?_ _)); refine blk_put (cs := #[.int .u8 ((rd_T25 l0 x8_1).f0), .int .u64 ((rd_T25 l0 x8_1).f1), .string (⟨#[]⟩ : ByteArray), .slice none 0 0]) ?_ 2 _ rfl; (with_reducible repeat (first | refine blk_drewN ?_ _ | refine blk_drew ?_ | refine blk_alloc ?_ _)); refine blk_put (cs := #[.int .u8 ((rd_T25 l0 x8_1).f0), .int .u64 0, .string (⟨#[]⟩ : ByteArray), .slice none 0 0]) ?_ 1 _ rfl; (with_reducible repeat (first | refine blk_drewN ?_ _ | refine blk_drew ?_ | refine blk_alloc ?_ _)); refine blk_put (cs := #[.int .u8 0, .int .u64 0, .string (⟨#[]⟩ : ByteArray), .slice none 0 0]) ?_ 0 _ rfl; (with_reducible repeat (first | refine blk_drewN ?_ _ | refine blk_drew ?_ | refine blk_alloc ?_ _)); exact BK202.out) hb); have n3_ := Aside0.mk (below_step (by repeat (first | (with_reducible first | exact HB.out | apply below_alloc | apply pw_below_drewN | apply below_drew1 | refine below_set ?_ GE202.out) | exact HB.out)) hb); clear HO_3; clear BK202; clear HB; have HO_3 := n0_; have HO208 := n1_; have BK202 := n2_; have HB := n3_; clear n0_ n1_ n2_ n3_; (try clear hb); (try clear hb2); (try clear hk); (try clear hi); (try clear ho0); obtain ⟨Ao11, co11, eo11⟩ := Kd.R_slice HO208.out; subst eo11) | ((with_reducible refine gate_builtin (b := .append) (xs := #[.tmp 12, .tmp 15]) rfl ?_); at_builtin; refine Kd.R_append k47 (w0 := w) w.heap.size rfl (.tmp 12) (.tmp 15) 36 47 (.agg #[(.int .u8 0), (.int .u64 0), (.string ⟨#[]⟩), (.slice none 0 0)]) 56 rfl Tryd.underlying36 info47 rfl (by decide) (by omega) u3 x3_1 (⟨t203, t204, t205, t206⟩ : S47) [.int .u8 t203, .int .u64 t204, .string t205, .slice Ao11 t206.length co11] (fun _ => True) (fun k_ => ((fun _ => True)) k_ ∧ some k_ ≠ (u3 : Value).ownBlock) rfl rfl ?aP (fun _ hk => hk) ?aF ?aO ?aB ?aS ?aL ?_; (case aP => exact k47_mkM _ _ _ (⟨t203, t204, t205, t206⟩ : S47) (Kd.R_mono (HO208.out) (fun k_ hk => ⟨trivial, hk.2⟩))); (case aB => exact (by repeat (first | (with_reducible first | exact HB.out | apply below_alloc | apply pw_below_drewN | apply below_drew1 | refine below_set ?_ GE202.out) | exact HB.out))); (case aF => exact (fun _ _ => trivial)); (case aO => exact (by (with_reducible repeat (first | apply Kd.R_alloc | apply Kd.R_drewN | apply Kd.R_drew)); exact Kd.R_mono HO_3.out (fun _ hk => trivial))); (case aS => exact (below_size (by repeat (first | (with_reducible first | exact HB.out | apply below_alloc | apply pw_below_drewN | apply below_drew1 | refine below_set ?_ GE202.out) | exact HB.out)))); (case aL => have := LMc6.out; omega); intro v210 w10 ho hb hg hat; rw [← Ny209.out] at ho; have n0_ := Aside0.mk (blk_grown (g := gb202) (o := .cells #[.int .u8 ((rd_T25 l0 x8_1).f0), .int .u64 ((rd_T25 l0 x8_1).f1), .string ((rd_T25 l0 x8_1).f2), .slice A201_3 ((rd_T25 l0 x8_1).f3).length c201_3] 25 (0, 0)) (by (with_reducible repeat (first | refine blk_drewN ?_ _ | refine blk_drew ?_ | refine blk_alloc ?_ _)); exact BK202.out) hg (Kd.R_ne HO_3.out BK202.out (by decide))); have n1_ := Aside0.mk (hb); have n2_ := Aside0.mk (ho); clear BK202; clear HB; clear HO_3; clear HO208; have BK202 := n0_; have HB := n1_; have HO211 := n2_; clear n0_ n1_ n2_; clear ho hb hg hat))
              go_roundg k1
              case measure => have := HK1.out; omega
              case rel => exact ⟨(y209), (wrap64 (x8_1 + 1)), (by first | rfl | (simp; done) | (simp [*]; done)), H', ⟨by have := HK1.out; omega⟩, ⟨by (with_reducible repeat (first | apply Kd.R_alloc | apply Kd.R_drewN | apply Kd.R_drew)); exact HO211.out⟩, ⟨by repeat (first | (with_reducible first | exact HB.out | apply below_alloc | apply pw_below_drewN | apply below_drew1 | refine below_set ?_ GE202.out) | exact HB.out)⟩⟩
            · rw [if_neg c6] at H
              exact absurd H (by simp)
          · rw [if_neg c4] at H
            exact absurd H (by simp)
        · rw [if_neg c3] at H
          exact absurd H (by simp)
      · rw [if_neg c2] at H
        have c2b0 : decide (x8_1 < (l0.length : Int)) = false := decide_eq_false c2
        clear c2
        obtain rfl := Option.some.inj H
        go_wp2
        go_ret
        exact ⟨_, by first | rfl | (simp [errW_none, errW_some] <;> rfl) | (simp [*, errW_none, errW_some] <;> rfl), by (with_reducible repeat (first | apply Kd.R_alloc | apply Kd.R_drewN | apply Kd.R_drew)); exact HO_3.out, by repeat (first | (with_reducible first | exact HB.out | apply below_alloc | apply pw_below_drewN | apply below_drew1) | exact HB.out)⟩
end Go.Proofs.YtnojjfklnihmnaaDoor.PFnSgOfParts

/- Part of the proof of LawFnMsName. -/
import Derived.Test.YtldjigfnagfalaaGreatDoorPMnx0
import Derived.Test.YtldjigfnagfalaaGreatDoorPMix1
set_option linter.unusedVariables false
set_option linter.unusedSimpArgs false
namespace Go.Proofs.YtldjigfnagfalaaGreatDoor.PMi
open Go.RowKit Go.Proofs.YtldjigfnagfalaaGreatDoorW.PrintWords Go.Proofs.YtldjigfnagfalaaGreatDoorW.PrintLast Go.Proofs.YtldjigfnagfalaaGreatDoorW.PrintMore
attribute [local go_sem] max2_int min2_int max_two min_two max_three min_three max_four min_four   -- for this text's walks alone
set_option linter.unusedVariables false
set_option linter.unusedSimpArgs false
def impl_msgIn.l0 : Nat → List (S43) → Int → Int → Int → Int → Int → List (S89) → List (S80) → Option (Int × Int × Int × (List (S89)) × (List (S80)))
  | 0, _, _, _, _, _, _, _, _ => none
  | k + 1, x17, x18, x19, x132000, x132001, x132002, x132003, x132004 => if x19 < x18 then (if 0 ≤ x19 then (if x19 < (x17.length : Int) then ((impl_valIn.f k ((rd_T43 x17 x19).f1.f0) ((rd_T43 x17 x19).f1.f1) ((rd_T43 x17 x19).f1.f2) ((rd_T43 x17 x19).f1.f3)).bind fun bt134 => (if x132003.length < 2199023255552 then (impl_msgIn.l0 k x17 x18 (wrap64 (x19 + 1)) x132000 x132001 x132002 (x132003 ++ [(⟨(rd_T43 x17 x19).f0, (⟨bt134.1, bt134.2.1, bt134.2.2.1, bt134.2.2.2⟩ : S80)⟩ : S89)]) x132004) else (none))) else (none)) else (none)) else (some (x132000, x132001, x132002, x132003, x132004))
def impl_msgIn.f (k : Nat) (a0_0 : Int) (a0_1 : Int) (a0_2 : Int) (l0_3 : List (S43)) (l0_4 : List (S27)) : Option (Int × Int × Int × (List (S89)) × (List (S80))) := (impl_valsIn.f k l0_4).bind fun t128 => (impl_msgIn.l0 k l0_3 (l0_3.length : Int) 0 a0_0 a0_1 a0_2 ([] : List (S89)) t128)
theorem impl_msgIn.mono_l : ∀ k, (∀ y0 y1 y2 y3 y4 y5 y6 y7, LeO (impl_msgIn.l0 k y0 y1 y2 y3 y4 y5 y6 y7) (impl_msgIn.l0 (k + 1) y0 y1 y2 y3 y4 y5 y6 y7))
  | 0 => fun _ _ _ _ _ _ _ _ r h => by simp [impl_msgIn.l0] at h
  | k + 1 => by
    have ih0 := impl_msgIn.mono_l k
    · intro y0 y1 y2 y3 y4 y5 y6 y7
      unfold impl_msgIn.l0
      repeat' first
      | (with_reducible exact ih0 _ _ _ _ _ _ _ _)
      | (with_reducible exact impl_valIn.mono _ _ _ _ _)
      | (with_reducible exact impl_valsIn.mono _ _)
      | (with_reducible exact LeO.refl _)
      | (with_reducible exact LeO.none _)
      | (with_reducible refine LeO.ite ?_ ?_)
      | (with_reducible refine LeO.bind ?_ (fun _ => ?_))
      | exact ih0 _ _ _ _ _ _ _ _
      | exact impl_valIn.mono _ _ _ _ _
      | exact impl_valsIn.mono _ _
      | exact LeO.none _
      | refine LeO.ite ?_ ?_
      | refine LeO.bind ?_ (fun _ => ?_)
theorem impl_msgIn.mono : ∀ a0 a1 a2 a3 a4 k, LeO (impl_msgIn.f k a0 a1 a2 a3 a4) (impl_msgIn.f (k + 1) a0 a1 a2 a3 a4) := by
  intro a0 a1 a2 a3 a4 k
  have ih0 := impl_msgIn.mono_l k
  unfold impl_msgIn.f
  repeat' first
      | (with_reducible exact ih0 _ _ _ _ _ _ _ _)
      | (with_reducible exact impl_valIn.mono _ _ _ _ _)
      | (with_reducible exact impl_valsIn.mono _ _)
      | (with_reducible exact LeO.refl _)
      | (with_reducible exact LeO.none _)
      | (with_reducible refine LeO.ite ?_ ?_)
      | (with_reducible refine LeO.bind ?_ (fun _ => ?_))
      | exact ih0 _ _ _ _ _ _ _ _
      | exact impl_valIn.mono _ _ _ _ _
      | exact impl_valsIn.mono _ _
      | exact LeO.none _
      | refine LeO.ite ?_ ?_
      | refine LeO.bind ?_ (fun _ => ?_)
def impl_msgIn.T1 : Bool × List (List Nat × List Nat) := (true, [([], []), ([0], [0]), ([], []), ([2], [2]), ([], []), ([4], [4]), ([], []), ([6], [6]), ([7], [7]), ([1, 3, 5, 8], [1, 3, 5, 8]), ([], []), ([10, 9, 8, 0, 1, 2, 3, 4, 5, 6, 7, 8, 9, 10], [9, 10])])
def impl_msgIn.B1 : List Nat := [0, 1, 0, 4, 0, 16, 0, 64, 192, 511, 0, 2047]
theorem impl_msgIn.tab1 : rtab .any (opsOf Tryz.f22 1) = impl_msgIn.T1 := by kernel_rfl
theorem impl_msgIn.bits1 : waitsOk impl_msgIn.T1.2 impl_msgIn.B1 = true := by kernel_rfl
def impl_msgIn.T5 : Bool × List (List Nat × List Nat) := (true, [([], []), ([0], [0]), ([], []), ([2], [2]), ([], []), ([4], [4]), ([5], [5]), ([3, 6], [3, 6]), ([7], [7]), ([1, 8, 6], [1, 8]), ([0, 1, 2, 3, 4, 5, 6, 7, 8, 9], []), ([10, 9, 9, 0, 1, 2, 3, 4, 5, 6, 7, 8, 9], [9, 10])])
def impl_msgIn.B5 : List Nat := [0, 1, 0, 4, 0, 16, 48, 124, 252, 511, 1023, 2047]
theorem impl_msgIn.tab5 : rtab .any (opsOf Tryz.f22 5) = impl_msgIn.T5 := by kernel_rfl
theorem impl_msgIn.bits5 : waitsOk impl_msgIn.T5.2 impl_msgIn.B5 = true := by kernel_rfl
set_option maxHeartbeats 8000000 in
set_option maxRecDepth 100000 in
theorem impl_msgIn.calls (k : Nat) (a0_0 : Int) (a0_1 : Int) (a0_2 : Int) (A0_3 : Option Addr) (c0_3 : Nat) (l0_3 : List (S43)) (A0_4 : Option Addr) (c0_4 : Nat) (l0_4 : List (S27)) (r1 : Int) (r2 : Int) (r3 : Int) (r4 : List (S89)) (r5 : List (S80)) (w : World) (hr0_3 : Kd.C k43 w A0_3 l0_3.length l0_3) (hc0_3 : l0_3.length ≤ c0_3) (hr0_4 : Kd.C k27 w A0_4 l0_4.length l0_4) (hc0_4 : l0_4.length ≤ c0_4) (h : impl_msgIn.f k a0_0 a0_1 a0_2 l0_3 l0_4 = some (r1, r2, r3, r4, r5)) :
    Calls Tryz.prog 22 #[.agg #[.int .u8 a0_0, .int .u8 a0_1, .int .u32 a0_2, .slice A0_3 l0_3.length c0_3, .slice A0_4 l0_4.length c0_4]] w fun e w' => ∃ v3_ v4_ : Value, e = .returned (.agg #[.int .u8 r1, .int .u8 r2, .int .u32 r3, v3_, v4_]) ∧ Kd.R k89 89 w' w.heap.size (fun k_ => some k_ ≠ (v4_ : Value).ownBlock) v3_ r4 ∧ Kd.R k80 80 w' w.heap.size (fun _ => True) v4_ r5 ∧ Below w.heap.size w w' := by
  have hu39 := Tryz.underlying39
  have hu62 := Tryz.underlying62
  have hu43 := Tryz.underlying43
  have hu27 := Tryz.underlying27
  have hu89 := Tryz.underlying89
  have HR0_3 := Aside0.mk hr0_3
  have HC0_3 := Aside0.mk hc0_3
  clear hr0_3 hc0_3
  have HR0_4 := Aside0.mk hr0_4
  have HC0_4 := Aside0.mk hc0_4
  clear hr0_4 hc0_4
  have HB := Aside0.mk (Below.refl w.heap.size w)
  have H : ((impl_valsIn.f k l0_4).bind fun t128 => (impl_msgIn.l0 k l0_3 (l0_3.length : Int) 0 a0_0 a0_1 a0_2 ([] : List (S89)) t128)) = some (r1, r2, r3, r4, r5) := h
  clear h
  replace H := Option.bind_eq_some_iff.mp H
  obtain ⟨t128, A20, H⟩ := H
  replace H : (impl_msgIn.l0 k l0_3 (l0_3.length : Int) 0 a0_0 a0_1 a0_2 ([] : List (S89)) t128) = some (r1, r2, r3, r4, r5) := H
  have A2 := Aside0.mk A20
  clear A20
  have H' := Aside0.mk H
  clear H
  go_enter Tryz.func22, Tryz.ntmps22
  try go_wp2_with (first | ((with_reducible refine gate_dst (N := 1) rfl ?_); refine box_event ?hg (N := 1) ?hd (cs := #[.int .u8 a0_0, .int .u8 a0_1, .int .u32 a0_2, .slice A0_3 l0_3.length c0_3, .slice A0_4 l0_4.length c0_4]) (t := 39) ?hr ?_; (case hd => rfl); (case hg => rfl); (case hr => first | (go_simp; done) | (go_simp; rfl)); intro gb126 hg w3 hbox hb; have n0_ := Aside0.mk (below_step (by repeat (first | (with_reducible first | exact HB.out | apply below_alloc | apply pw_below_drewN | apply below_drew1) | exact HB.out)) hb); have n1_ := Aside0.mk (hbox); have n2_ := Aside0.mk ((by rw [hg]; exact (below_size (by repeat (first | (with_reducible first | exact HB.out | apply below_alloc | apply pw_below_drewN | apply below_drew1) | exact HB.out))) : w.heap.size ≤ gb126)); have n3_ := Aside0.mk ((by rw [hg]; exact (below_size (by repeat (first | (with_reducible first | exact HB.out | apply below_alloc | apply pw_below_drewN | apply below_drew1) | exact HB.out))) : w.heap.size ≤ gb126)); clear HB; have HB := n0_; have BK126 := n1_; have GW126 := n2_; have GE126 := n3_; clear n0_ n1_ n2_ n3_; clear hb hbox hg) | ((with_reducible refine gate_dst (N := 2) rfl ?_); refine box_event ?hg (N := 2) ?hd (cs := #[.int .u8 0, .int .u8 0, .int .u32 0, .slice none 0 0, .slice none 0 0]) (t := 62) ?hr ?_; (case hd => rfl); (case hg => rfl); (case hr => first | (go_simp; done) | (go_simp; rfl)); intro gb127 hg w4 hbox hb; have n0_ := Aside0.mk (blk_below (g := gb126) (o := .cells #[.int .u8 a0_0, .int .u8 a0_1, .int .u32 a0_2, .slice A0_3 l0_3.length c0_3, .slice A0_4 l0_4.length c0_4] 39 (0, 0)) (by (with_reducible repeat (first | refine blk_drewN ?_ _ | refine blk_drew ?_ | refine blk_alloc ?_ _)); exact BK126.out) hb); have n1_ := Aside0.mk (below_step (by repeat (first | (with_reducible first | exact HB.out | apply below_alloc | apply pw_below_drewN | apply below_drew1 | refine below_set ?_ GE126.out) | exact HB.out)) hb); have n2_ := Aside0.mk (hbox); have n3_ := Aside0.mk ((by rw [hg]; exact (below_size (by repeat (first | (with_reducible first | exact HB.out | apply below_alloc | apply pw_below_drewN | apply below_drew1 | refine below_set ?_ GE126.out) | exact HB.out))) : w.heap.size ≤ gb127)); have n4_ := Aside0.mk ((by rw [hg]; exact (below_size (by repeat (first | (with_reducible first | exact HB.out | apply below_alloc | apply pw_below_drewN | apply below_drew1 | refine below_set ?_ GE126.out) | exact HB.out))) : w.heap.size ≤ gb127)); have n5_ := Aside0.mk ((by rw [hg]; exact Nat.ne_of_lt (blk_lt (g := gb126) (o := .cells #[.int .u8 a0_0, .int .u8 a0_1, .int .u32 a0_2, .slice A0_3 l0_3.length c0_3, .slice A0_4 l0_4.length c0_4] 39 (0, 0)) (by (with_reducible repeat (first | refine blk_drewN ?_ _ | refine blk_drew ?_ | refine blk_alloc ?_ _)); exact BK126.out)) : gb126 ≠ gb127)); have n6_ := Aside0.mk ((by rw [hg]; exact Nat.ne_of_gt (blk_lt (g := gb126) (o := .cells #[.int .u8 a0_0, .int .u8 a0_1, .int .u32 a0_2, .slice A0_3 l0_3.length c0_3, .slice A0_4 l0_4.length c0_4] 39 (0, 0)) (by (with_reducible repeat (first | refine blk_drewN ?_ _ | refine blk_drew ?_ | refine blk_alloc ?_ _)); exact BK126.out)) : gb127 ≠ gb126)); clear BK126; clear HB; have BK126 := n0_; have HB := n1_; have BK127 := n2_; have GW127 := n3_; have GE127 := n4_; have NB126_127 := n5_; have NB127_126 := n6_; clear n0_ n1_ n2_ n3_ n4_ n5_ n6_; clear hb hbox hg))
  have n0_ := Aside0.mk (blk_drew BK126.out)
  have n1_ := Aside0.mk (blk_drew BK127.out)
  have n2_ := Aside0.mk (below_drew1 HB.out)
  clear BK126
  clear BK127
  clear HB
  have BK126 := n0_
  have BK127 := n1_
  have HB := n2_
  clear n0_ n1_ n2_
  refine start_ (n := 12) (S := fun w' => w'.cell? ⟨gb126, 0, none⟩ = some (.int .u8 a0_0) ∧ w'.cell? ⟨gb126, 1, none⟩ = some (.int .u8 a0_1) ∧ w'.cell? ⟨gb126, 2, none⟩ = some (.int .u32 a0_2) ∧ w'.cell? ⟨gb126, 3, none⟩ = some (.slice A0_3 l0_3.length c0_3) ∧ w'.cell? ⟨gb126, 4, none⟩ = some (.slice A0_4 l0_4.length c0_4)) (ds := []) #[false, false, false, false, false, false, false, false, false, false, false, false] (by kernel_rfl) rfl rfl ⟨(blk_cell BK126.out 0).trans rfl, (blk_cell BK126.out 1).trans rfl, (blk_cell BK126.out 2).trans rfl, (blk_cell BK126.out 3).trans rfl, (blk_cell BK126.out 4).trans rfl⟩ (fun hHeld => ?_); refine with_tabW impl_msgIn.tab1 impl_msgIn.bits1 (fun HT_ HW_ => ?_)
  generalize w4.drew = w5 at BK126 BK127 HB hHeld ⊢
  refine pure_ (i := 0) (N := some 6) (v := ?_) (a' := ?_) #[true, false, false, false, false, false, false, false, false, false, false, false] rfl rfl (any_of HT_.out (by kernel_rfl)) (fun _ _ _ h => h) (Or.inl ⟨by rfl, ?_⟩) ?_ ?_
  rotate_left
  · intro w'
    go_simp
    with_reducible rfl
  rotate_left
  · simp only [Act.put, List.setIfInBounds_toArray, List.set_cons_zero, List.set_cons_succ, i64_w, i32_w]
    rfl
  refine pure_ (i := 2) (N := some 8) (v := ?_) (a' := ?_) #[true, false, true, false, false, false, false, false, false, false, false, false] rfl rfl (any_of HT_.out (by kernel_rfl)) (fun _ _ _ h => h) (Or.inl ⟨by rfl, ?_⟩) ?_ ?_
  rotate_left
  · intro w'
    go_simp
    with_reducible rfl
  rotate_left
  · simp only [Act.put, List.setIfInBounds_toArray, List.set_cons_zero, List.set_cons_succ, i64_w, i32_w]
    rfl
  refine pure_ (i := 4) (N := some 10) (v := ?_) (a' := ?_) #[true, false, true, false, true, false, false, false, false, false, false, false] rfl rfl (any_of HT_.out (by kernel_rfl)) (fun _ _ _ h => h) (Or.inl ⟨by rfl, ?_⟩) ?_ ?_
  rotate_left
  · intro w'
    go_simp
    with_reducible rfl
  rotate_left
  · simp only [Act.put, List.setIfInBounds_toArray, List.set_cons_zero, List.set_cons_succ, i64_w, i32_w]
    rfl
  refine pure_ (i := 6) (N := some 12) (v := ?_) (a' := ?_) #[true, false, true, false, true, false, true, false, false, false, false, false] rfl rfl (any_of HT_.out (by kernel_rfl)) (fun _ _ _ h => h) (Or.inl ⟨by rfl, ?_⟩) ?_ ?_
  rotate_left
  · intro w'
    go_simp
    with_reducible rfl
  rotate_left
  · simp only [Act.put, List.setIfInBounds_toArray, List.set_cons_zero, List.set_cons_succ, i64_w, i32_w]
    rfl
  refine take_ (i := 1) (N := some 7) (v := ?_) (a' := ?_) #[true, true, true, false, true, false, true, false, false, false, false, false] rfl rfl (take_ofW HT_.out HW_.out (by kernel_rfl)) (fun _ _ _ h => h) (Or.inl ⟨by rfl, ?_⟩) hHeld ?_ ?_
  rotate_left
  · rintro w' ⟨s0, s1, s2, s3, s4⟩
    go_simp
    with_reducible rfl
  rotate_left
  · simp only [Act.put, List.setIfInBounds_toArray, List.set_cons_zero, List.set_cons_succ, i64_w, i32_w]
    rfl
  refine take_ (i := 3) (N := some 9) (v := ?_) (a' := ?_) #[true, true, true, true, true, false, true, false, false, false, false, false] rfl rfl (take_ofW HT_.out HW_.out (by kernel_rfl)) (fun _ _ _ h => h) (Or.inl ⟨by rfl, ?_⟩) hHeld ?_ ?_
  rotate_left
  · rintro w' ⟨s0, s1, s2, s3, s4⟩
    go_simp
    with_reducible rfl
  rotate_left
  · simp only [Act.put, List.setIfInBounds_toArray, List.set_cons_zero, List.set_cons_succ, i64_w, i32_w]
    rfl
  refine take_ (i := 5) (N := some 11) (v := ?_) (a' := ?_) #[true, true, true, true, true, true, true, false, false, false, false, false] rfl rfl (take_ofW HT_.out HW_.out (by kernel_rfl)) (fun _ _ _ h => h) (Or.inl ⟨by rfl, ?_⟩) hHeld ?_ ?_
  rotate_left
  · rintro w' ⟨s0, s1, s2, s3, s4⟩
    go_simp
    with_reducible rfl
  rotate_left
  · simp only [Act.put, List.setIfInBounds_toArray, List.set_cons_zero, List.set_cons_succ, i64_w, i32_w]
    rfl
  refine take_ (i := 7) (N := some 13) (v := ?_) (a' := ?_) #[true, true, true, true, true, true, true, true, false, false, false, false] rfl rfl (take_ofW HT_.out HW_.out (by kernel_rfl)) (fun _ _ _ h => h) (Or.inl ⟨by rfl, ?_⟩) hHeld ?_ ?_
  rotate_left
  · rintro w' ⟨s0, s1, s2, s3, s4⟩
    go_simp
    with_reducible rfl
  rotate_left
  · simp only [Act.put, List.setIfInBounds_toArray, List.set_cons_zero, List.set_cons_succ, i64_w, i32_w]
    rfl
  refine join_ (σ := Value × Nat) 1 #[true, true, true, true, true, true, true, true, true, true, true, false] (fun s_ => [(14, s_.1), (3, .pointer (some ⟨s_.2, 0, none⟩)), (15, .agg #[.int .u8 a0_0, .int .u8 a0_1, .int .u32 a0_2, .slice none 0 0, s_.1])]) (fun s_ w' => (w'.cell? ⟨gb126, 0, none⟩ = some (.int .u8 a0_0) ∧ w'.cell? ⟨gb126, 1, none⟩ = some (.int .u8 a0_1) ∧ w'.cell? ⟨gb126, 2, none⟩ = some (.int .u32 a0_2) ∧ w'.cell? ⟨gb126, 3, none⟩ = some (.slice A0_3 l0_3.length c0_3) ∧ w'.cell? ⟨gb126, 4, none⟩ = some (.slice A0_4 l0_4.length c0_4)) ∧ (Kd.R k80 80 w' w.heap.size (fun _ => True) s_.1 t128) ∧ (w'.heap[gb126]? = some (.cells #[.int .u8 a0_0, .int .u8 a0_1, .int .u32 a0_2, .slice A0_3 l0_3.length c0_3, .slice A0_4 l0_4.length c0_4] 39 (0, 0))) ∧ (w'.heap[gb127]? = some (.cells #[.int .u8 0, .int .u8 0, .int .u32 0, .slice none 0 0, .slice none 0 0] 62 (0, 0))) ∧ (w'.heap[s_.2]? = some (.cells #[.int .u8 0, .int .u8 0, .int .u32 0, .slice none 0 0, .slice none 0 0] 62 (0, 0))) ∧ (w.heap.size ≤ s_.2) ∧ (w.heap.size ≤ s_.2) ∧ (gb126 ≠ s_.2) ∧ (s_.2 ≠ gb126) ∧ (gb127 ≠ s_.2) ∧ (s_.2 ≠ gb127) ∧ (Below w.heap.size w w')) ?_ ?_
  rotate_left
  · intro hCont
    refine two_ (i := 8) (j := 10) (Ni := some 14) (Nj := some 3) #[true, true, true, true, true, true, true, true, true, false, false, false] #[true, true, true, true, true, true, true, true, false, false, true, false] rfl rfl rfl rfl (two_of HT_.out (by kernel_rfl)) (by decide) (by decide) (fun K hK => ?_) (fun K hK => ?_)
    · skip
      refine goes_ Tryz.func16 (by kernel_rfl) rfl #[.slice A0_4 l0_4.length c0_4] (by rfl) rfl rfl (by (try simp only [List.map_toArray, List.map_cons, List.map_nil]); first | done | rfl | (simp only [List.length_drop, List.length_take]; rfl)) ?_
      with_reducible refine (impl_valsIn.calls k _ _ l0_4 t128 _ ?side1 ?side2 A2.out).mono ?_
      (case side1 => repeat (first | exact (Kd.C_below HR0_4.out HB.out) | (with_reducible refine Kd.C_alloc ?_ _) | (with_reducible refine Kd.C_drewN ?_ _) | (with_reducible refine Kd.C_drew ?_)))
      (case side2 => exact HC0_4.out)
      rintro e w6 ⟨v129, rfl, ho0, hb⟩
      refine ⟨_, rfl, ?_⟩
      have n0_ := Aside0.mk (Kd.R_lower ho0 (below_size (by repeat (first | (with_reducible first | exact HB.out | apply below_alloc | apply pw_below_drewN | apply below_drew1 | refine below_set ?_ GE126.out | refine below_set ?_ GE127.out) | exact HB.out))))
      have n1_ := Aside0.mk (blk_below (g := gb126) (o := .cells #[.int .u8 a0_0, .int .u8 a0_1, .int .u32 a0_2, .slice A0_3 l0_3.length c0_3, .slice A0_4 l0_4.length c0_4] 39 (0, 0)) (by (with_reducible repeat (first | refine blk_drewN ?_ _ | refine blk_drew ?_ | refine blk_alloc ?_ _)); exact BK126.out) hb)
      have n2_ := Aside0.mk (blk_below (g := gb127) (o := .cells #[.int .u8 0, .int .u8 0, .int .u32 0, .slice none 0 0, .slice none 0 0] 62 (0, 0)) (by (with_reducible repeat (first | refine blk_drewN ?_ _ | refine blk_drew ?_ | refine blk_alloc ?_ _)); exact BK127.out) hb)
      have n3_ := Aside0.mk (below_step (by repeat (first | (with_reducible first | exact HB.out | apply below_alloc | apply pw_below_drewN | apply below_drew1 | refine below_set ?_ GE126.out | refine below_set ?_ GE127.out) | exact HB.out)) hb)
      clear BK126
      clear BK127
      clear HB
      have HO130 := n0_
      have BK126 := n1_
      have BK127 := n2_
      have HB := n3_
      clear n0_ n1_ n2_ n3_
      (try clear hb)
      (try clear hb2)
      (try clear hk)
      (try clear hi)
      (try clear ho0)
      obtain ⟨Ao7, co7, eo7⟩ := Kd.R_slice HO130.out
      (first | subst eo7 | (injection eo7 with f1_ f2_ f3_; have f4_ := f1_.symm; have f5_ := f3_.symm; clear f1_ f2_ f3_; subst f4_; subst f5_))
      refine hK.out _ _ ⟨(blk_cell BK126.out 0).trans rfl, (blk_cell BK126.out 1).trans rfl, (blk_cell BK126.out 2).trans rfl, (blk_cell BK126.out 3).trans rfl, (blk_cell BK126.out 4).trans rfl⟩ (fun hHeld => ?_)
      clear hK K
      refine norm_ (a' := ?_) ?_ ?_
      rotate_left
      · show Act.put _ (some 14) _ = _
        simp only [Act.put, List.setIfInBounds_toArray, List.set_cons_zero, List.set_cons_succ, i64_w, i32_w]
        rfl
      refine pure_ (i := 9) (N := some 15) (v := ?_) (a' := ?_) #[true, true, true, true, true, true, true, true, true, true, false, false] rfl rfl (any_of HT_.out (by kernel_rfl)) (fun _ _ _ h => h) (Or.inl ⟨by rfl, ?_⟩) ?_ ?_
      rotate_left
      · intro w'
        go_simp
        with_reducible rfl
      rotate_left
      · simp only [Act.put, List.setIfInBounds_toArray, List.set_cons_zero, List.set_cons_succ, i64_w, i32_w]
        rfl
      refine one_ (i := 10) (N := some 3) #[true, true, true, true, true, true, true, true, true, true, true, false] rfl rfl (one_of HT_.out (by kernel_rfl)) (by decide) (fun K hK => ?_)
      refine box_step ?hg (N := 3) ?hd (cs := #[.int .u8 0, .int .u8 0, .int .u32 0, .slice none 0 0, .slice none 0 0]) (t := 62) ?hr ?_; (case hd => rfl); (case hg => rfl); (case hr => first | (go_simp; done) | (go_simp; rfl))
      intro gb131 hg w8 hbox hb
      have n0_ := Aside0.mk (Kd.R_below (by (with_reducible repeat (first | apply Kd.R_alloc | apply Kd.R_drewN | apply Kd.R_drew)); exact HO130.out) hb)
      have n1_ := Aside0.mk (blk_below (g := gb126) (o := .cells #[.int .u8 a0_0, .int .u8 a0_1, .int .u32 a0_2, .slice A0_3 l0_3.length c0_3, .slice A0_4 l0_4.length c0_4] 39 (0, 0)) (by (with_reducible repeat (first | refine blk_drewN ?_ _ | refine blk_drew ?_ | refine blk_alloc ?_ _)); exact BK126.out) hb)
      have n2_ := Aside0.mk (blk_below (g := gb127) (o := .cells #[.int .u8 0, .int .u8 0, .int .u32 0, .slice none 0 0, .slice none 0 0] 62 (0, 0)) (by (with_reducible repeat (first | refine blk_drewN ?_ _ | refine blk_drew ?_ | refine blk_alloc ?_ _)); exact BK127.out) hb)
      have n3_ := Aside0.mk (below_step (by repeat (first | (with_reducible first | exact HB.out | apply below_alloc | apply pw_below_drewN | apply below_drew1 | refine below_set ?_ GE126.out | refine below_set ?_ GE127.out) | exact HB.out)) hb)
      have n4_ := Aside0.mk (hbox)
      have n5_ := Aside0.mk ((by rw [hg]; exact (below_size (by repeat (first | (with_reducible first | exact HB.out | apply below_alloc | apply pw_below_drewN | apply below_drew1 | refine below_set ?_ GE126.out | refine below_set ?_ GE127.out) | exact HB.out))) : w.heap.size ≤ gb131))
      have n6_ := Aside0.mk ((by rw [hg]; exact (below_size (by repeat (first | (with_reducible first | exact HB.out | apply below_alloc | apply pw_below_drewN | apply below_drew1 | refine below_set ?_ GE126.out | refine below_set ?_ GE127.out) | exact HB.out))) : w.heap.size ≤ gb131))
      have n7_ := Aside0.mk ((by rw [hg]; exact Nat.ne_of_lt (blk_lt (g := gb126) (o := .cells #[.int .u8 a0_0, .int .u8 a0_1, .int .u32 a0_2, .slice A0_3 l0_3.length c0_3, .slice A0_4 l0_4.length c0_4] 39 (0, 0)) (by (with_reducible repeat (first | refine blk_drewN ?_ _ | refine blk_drew ?_ | refine blk_alloc ?_ _)); exact BK126.out)) : gb126 ≠ gb131))
      have n8_ := Aside0.mk ((by rw [hg]; exact Nat.ne_of_gt (blk_lt (g := gb126) (o := .cells #[.int .u8 a0_0, .int .u8 a0_1, .int .u32 a0_2, .slice A0_3 l0_3.length c0_3, .slice A0_4 l0_4.length c0_4] 39 (0, 0)) (by (with_reducible repeat (first | refine blk_drewN ?_ _ | refine blk_drew ?_ | refine blk_alloc ?_ _)); exact BK126.out)) : gb131 ≠ gb126))
      have n9_ := Aside0.mk ((by rw [hg]; exact Nat.ne_of_lt (blk_lt (g := gb127) (o := .cells #[.int .u8 0, .int .u8 0, .int .u32 0, .slice none 0 0, .slice none 0 0] 62 (0, 0)) (by (with_reducible repeat (first | refine blk_drewN ?_ _ | refine blk_drew ?_ | refine blk_alloc ?_ _)); exact BK127.out)) : gb127 ≠ gb131))
      have n10_ := Aside0.mk ((by rw [hg]; exact Nat.ne_of_gt (blk_lt (g := gb127) (o := .cells #[.int .u8 0, .int .u8 0, .int .u32 0, .slice none 0 0, .slice none 0 0] 62 (0, 0)) (by (with_reducible repeat (first | refine blk_drewN ?_ _ | refine blk_drew ?_ | refine blk_alloc ?_ _)); exact BK127.out)) : gb131 ≠ gb127))
      clear HO130
      clear BK126
      clear BK127
      clear HB
      have HO130 := n0_
      have BK126 := n1_
      have BK127 := n2_
      have HB := n3_
      have BK131 := n4_
      have GW131 := n5_
      have GE131 := n6_
      have NB126_131 := n7_
      have NB131_126 := n8_
      have NB127_131 := n9_
      have NB131_127 := n10_
      clear n0_ n1_ n2_ n3_ n4_ n5_ n6_ n7_ n8_ n9_ n10_
      clear hb hbox hg
      refine hK.out _ _ ⟨(blk_cell BK126.out 0).trans rfl, (blk_cell BK126.out 1).trans rfl, (blk_cell BK126.out 2).trans rfl, (blk_cell BK126.out 3).trans rfl, (blk_cell BK126.out 4).trans rfl⟩ (fun hHeld => ?_)
      clear hK K
      refine norm_ (a' := ?_) ?_ ?_
      rotate_left
      · show Act.put _ (some 3) _ = _
        simp only [Act.put, List.setIfInBounds_toArray, List.set_cons_zero, List.set_cons_succ, i64_w, i32_w]
        rfl
      exact norm_ (by simp only [putAll, Act.put, List.setIfInBounds_toArray, List.set_cons_zero, List.set_cons_succ]) (hCont (.slice Ao7 t128.length co7, gb131) _ ⟨hHeld, (by (with_reducible repeat (first | apply Kd.R_alloc | apply Kd.R_drewN | apply Kd.R_drew)); exact HO130.out), (by (with_reducible repeat (first | refine blk_drewN ?_ _ | refine blk_drew ?_ | refine blk_alloc ?_ _)); exact BK126.out), (by (with_reducible repeat (first | refine blk_drewN ?_ _ | refine blk_drew ?_ | refine blk_alloc ?_ _)); exact BK127.out), (by (with_reducible repeat (first | refine blk_drewN ?_ _ | refine blk_drew ?_ | refine blk_alloc ?_ _)); exact BK131.out), GW131.out, GE131.out, NB126_131.out, NB131_126.out, NB127_131.out, NB131_127.out, (by repeat (first | (with_reducible first | exact HB.out | apply below_alloc | apply pw_below_drewN | apply below_drew1 | refine below_set ?_ GE126.out | refine below_set ?_ GE127.out | refine below_set ?_ GE131.out) | exact HB.out))⟩)
    · skip
      refine box_step ?hg (N := 3) ?hd (cs := #[.int .u8 0, .int .u8 0, .int .u32 0, .slice none 0 0, .slice none 0 0]) (t := 62) ?hr ?_; (case hd => rfl); (case hg => rfl); (case hr => first | (go_simp; done) | (go_simp; rfl))
      intro gb131 hg w6 hbox hb
      have n0_ := Aside0.mk (blk_below (g := gb126) (o := .cells #[.int .u8 a0_0, .int .u8 a0_1, .int .u32 a0_2, .slice A0_3 l0_3.length c0_3, .slice A0_4 l0_4.length c0_4] 39 (0, 0)) (by (with_reducible repeat (first | refine blk_drewN ?_ _ | refine blk_drew ?_ | refine blk_alloc ?_ _)); exact BK126.out) hb)
      have n1_ := Aside0.mk (blk_below (g := gb127) (o := .cells #[.int .u8 0, .int .u8 0, .int .u32 0, .slice none 0 0, .slice none 0 0] 62 (0, 0)) (by (with_reducible repeat (first | refine blk_drewN ?_ _ | refine blk_drew ?_ | refine blk_alloc ?_ _)); exact BK127.out) hb)
      have n2_ := Aside0.mk (below_step (by repeat (first | (with_reducible first | exact HB.out | apply below_alloc | apply pw_below_drewN | apply below_drew1 | refine below_set ?_ GE126.out | refine below_set ?_ GE127.out) | exact HB.out)) hb)
      have n3_ := Aside0.mk (hbox)
      have n4_ := Aside0.mk ((by rw [hg]; exact (below_size (by repeat (first | (with_reducible first | exact HB.out | apply below_alloc | apply pw_below_drewN | apply below_drew1 | refine below_set ?_ GE126.out | refine below_set ?_ GE127.out) | exact HB.out))) : w.heap.size ≤ gb131))
      have n5_ := Aside0.mk ((by rw [hg]; exact (below_size (by repeat (first | (with_reducible first | exact HB.out | apply below_alloc | apply pw_below_drewN | apply below_drew1 | refine below_set ?_ GE126.out | refine below_set ?_ GE127.out) | exact HB.out))) : w.heap.size ≤ gb131))
      have n6_ := Aside0.mk ((by rw [hg]; exact Nat.ne_of_lt (blk_lt (g := gb126) (o := .cells #[.int .u8 a0_0, .int .u8 a0_1, .int .u32 a0_2, .slice A0_3 l0_3.length c0_3, .slice A0_4 l0_4.length c0_4] 39 (0, 0)) (by (with_reducible repeat (first | refine blk_drewN ?_ _ | refine blk_drew ?_ | refine blk_alloc ?_ _)); exact BK126.out)) : gb126 ≠ gb131))
      have n7_ := Aside0.mk ((by rw [hg]; exact Nat.ne_of_gt (blk_lt (g := gb126) (o := .cells #[.int .u8 a0_0, .int .u8 a0_1, .int .u32 a0_2, .slice A0_3 l0_3.length c0_3, .slice A0_4 l0_4.length c0_4] 39 (0, 0)) (by (with_reducible repeat (first | refine blk_drewN ?_ _ | refine blk_drew ?_ | refine blk_alloc ?_ _)); exact BK126.out)) : gb131 ≠ gb126))
      have n8_ := Aside0.mk ((by rw [hg]; exact Nat.ne_of_lt (blk_lt (g := gb127) (o := .cells #[.int .u8 0, .int .u8 0, .int .u32 0, .slice none 0 0, .slice none 0 0] 62 (0, 0)) (by (with_reducible repeat (first | refine blk_drewN ?_ _ | refine blk_drew ?_ | refine blk_alloc ?_ _)); exact BK127.out)) : gb127 ≠ gb131))
      have n9_ := Aside0.mk ((by rw [hg]; exact Nat.ne_of_gt (blk_lt (g := gb127) (o := .cells #[.int .u8 0, .int .u8 0, .int .u32 0, .slice none 0 0, .slice none 0 0] 62 (0, 0)) (by (with_reducible repeat (first | refine blk_drewN ?_ _ | refine blk_drew ?_ | refine blk_alloc ?_ _)); exact BK127.out)) : gb131 ≠ gb127))
      clear BK126
      clear BK127
      clear HB
      have BK126 := n0_
      have BK127 := n1_
      have HB := n2_
      have BK131 := n3_
      have GW131 := n4_
      have GE131 := n5_
      have NB126_131 := n6_
      have NB131_126 := n7_
      have NB127_131 := n8_
      have NB131_127 := n9_
      clear n0_ n1_ n2_ n3_ n4_ n5_ n6_ n7_ n8_ n9_
      clear hb hbox hg
      refine hK.out _ _ ⟨(blk_cell BK126.out 0).trans rfl, (blk_cell BK126.out 1).trans rfl, (blk_cell BK126.out 2).trans rfl, (blk_cell BK126.out 3).trans rfl, (blk_cell BK126.out 4).trans rfl⟩ (fun hHeld => ?_)
      clear hK K
      refine norm_ (a' := ?_) ?_ ?_
      rotate_left
      · show Act.put _ (some 3) _ = _
        simp only [Act.put, List.setIfInBounds_toArray, List.set_cons_zero, List.set_cons_succ, i64_w, i32_w]
        rfl
      refine one_ (i := 8) (N := some 14) #[true, true, true, true, true, true, true, true, true, false, true, false] rfl rfl (one_of HT_.out (by kernel_rfl)) (by decide) (fun K hK => ?_)
      refine goes_ Tryz.func16 (by kernel_rfl) rfl #[.slice A0_4 l0_4.length c0_4] (by rfl) rfl rfl (by (try simp only [List.map_toArray, List.map_cons, List.map_nil]); first | done | rfl | (simp only [List.length_drop, List.length_take]; rfl)) ?_
      with_reducible refine (impl_valsIn.calls k _ _ l0_4 t128 _ ?side1 ?side2 A2.out).mono ?_
      (case side1 => repeat (first | exact (Kd.C_below HR0_4.out HB.out) | (with_reducible refine Kd.C_alloc ?_ _) | (with_reducible refine Kd.C_drewN ?_ _) | (with_reducible refine Kd.C_drew ?_)))
      (case side2 => exact HC0_4.out)
      rintro e w7 ⟨v129, rfl, ho0, hb⟩
      refine ⟨_, rfl, ?_⟩
      have n0_ := Aside0.mk (Kd.R_lower ho0 (below_size (by repeat (first | (with_reducible first | exact HB.out | apply below_alloc | apply pw_below_drewN | apply below_drew1 | refine below_set ?_ GE126.out | refine below_set ?_ GE127.out | refine below_set ?_ GE131.out) | exact HB.out))))
      have n1_ := Aside0.mk (blk_below (g := gb126) (o := .cells #[.int .u8 a0_0, .int .u8 a0_1, .int .u32 a0_2, .slice A0_3 l0_3.length c0_3, .slice A0_4 l0_4.length c0_4] 39 (0, 0)) (by (with_reducible repeat (first | refine blk_drewN ?_ _ | refine blk_drew ?_ | refine blk_alloc ?_ _)); exact BK126.out) hb)
      have n2_ := Aside0.mk (blk_below (g := gb127) (o := .cells #[.int .u8 0, .int .u8 0, .int .u32 0, .slice none 0 0, .slice none 0 0] 62 (0, 0)) (by (with_reducible repeat (first | refine blk_drewN ?_ _ | refine blk_drew ?_ | refine blk_alloc ?_ _)); exact BK127.out) hb)
      have n3_ := Aside0.mk (blk_below (g := gb131) (o := .cells #[.int .u8 0, .int .u8 0, .int .u32 0, .slice none 0 0, .slice none 0 0] 62 (0, 0)) (by (with_reducible repeat (first | refine blk_drewN ?_ _ | refine blk_drew ?_ | refine blk_alloc ?_ _)); exact BK131.out) hb)
      have n4_ := Aside0.mk (below_step (by repeat (first | (with_reducible first | exact HB.out | apply below_alloc | apply pw_below_drewN | apply below_drew1 | refine below_set ?_ GE126.out | refine below_set ?_ GE127.out | refine below_set ?_ GE131.out) | exact HB.out)) hb)
      clear BK126
      clear BK127
      clear BK131
      clear HB
      have HO130 := n0_
      have BK126 := n1_
      have BK127 := n2_
      have BK131 := n3_
      have HB := n4_
      clear n0_ n1_ n2_ n3_ n4_
      (try clear hb)
      (try clear hb2)
      (try clear hk)
      (try clear hi)
      (try clear ho0)
      obtain ⟨Ao8, co8, eo8⟩ := Kd.R_slice HO130.out
      (first | subst eo8 | (injection eo8 with f1_ f2_ f3_; have f4_ := f1_.symm; have f5_ := f3_.symm; clear f1_ f2_ f3_; subst f4_; subst f5_))
      refine hK.out _ _ ⟨(blk_cell BK126.out 0).trans rfl, (blk_cell BK126.out 1).trans rfl, (blk_cell BK126.out 2).trans rfl, (blk_cell BK126.out 3).trans rfl, (blk_cell BK126.out 4).trans rfl⟩ (fun hHeld => ?_)
      clear hK K
      refine norm_ (a' := ?_) ?_ ?_
      rotate_left
      · show Act.put _ (some 14) _ = _
        simp only [Act.put, List.setIfInBounds_toArray, List.set_cons_zero, List.set_cons_succ, i64_w, i32_w]
        rfl
      refine pure_ (i := 9) (N := some 15) (v := ?_) (a' := ?_) #[true, true, true, true, true, true, true, true, true, true, true, false] rfl rfl (any_of HT_.out (by kernel_rfl)) (fun _ _ _ h => h) (Or.inl ⟨by rfl, ?_⟩) ?_ ?_
      rotate_left
      · intro w'
        go_simp
        with_reducible rfl
      rotate_left
      · simp only [Act.put, List.setIfInBounds_toArray, List.set_cons_zero, List.set_cons_succ, i64_w, i32_w]
        rfl
      exact norm_ (by simp only [putAll, Act.put, List.setIfInBounds_toArray, List.set_cons_zero, List.set_cons_succ]) (hCont (.slice Ao8 t128.length co8, gb131) _ ⟨hHeld, (by (with_reducible repeat (first | apply Kd.R_alloc | apply Kd.R_drewN | apply Kd.R_drew)); exact HO130.out), (by (with_reducible repeat (first | refine blk_drewN ?_ _ | refine blk_drew ?_ | refine blk_alloc ?_ _)); exact BK126.out), (by (with_reducible repeat (first | refine blk_drewN ?_ _ | refine blk_drew ?_ | refine blk_alloc ?_ _)); exact BK127.out), (by (with_reducible repeat (first | refine blk_drewN ?_ _ | refine blk_drew ?_ | refine blk_alloc ?_ _)); exact BK131.out), GW131.out, GE131.out, NB126_131.out, NB131_126.out, NB127_131.out, NB131_127.out, (by repeat (first | (with_reducible first | exact HB.out | apply below_alloc | apply pw_below_drewN | apply below_drew1 | refine below_set ?_ GE126.out | refine below_set ?_ GE127.out | refine below_set ?_ GE131.out) | exact HB.out))⟩)
  rintro ⟨v129, gb131⟩ w9 ⟨hS_, h0_, h1_, h2_, h3_, h4_, h5_, h6_, h7_, h8_, h9_, h10_⟩
  have n0_ : Aside0 (Kd.R k80 80 w9 w.heap.size (fun _ => True) v129 t128) := ⟨h0_⟩
  have n1_ : Aside0 (w9.heap[gb126]? = some (.cells #[.int .u8 a0_0, .int .u8 a0_1, .int .u32 a0_2, .slice A0_3 l0_3.length c0_3, .slice A0_4 l0_4.length c0_4] 39 (0, 0))) := ⟨h1_⟩
  have n2_ : Aside0 (w9.heap[gb127]? = some (.cells #[.int .u8 0, .int .u8 0, .int .u32 0, .slice none 0 0, .slice none 0 0] 62 (0, 0))) := ⟨h2_⟩
  have n3_ : Aside0 (w9.heap[gb131]? = some (.cells #[.int .u8 0, .int .u8 0, .int .u32 0, .slice none 0 0, .slice none 0 0] 62 (0, 0))) := ⟨h3_⟩
  have n4_ : Aside0 (w.heap.size ≤ gb131) := ⟨h4_⟩
  have n5_ : Aside0 (w.heap.size ≤ gb131) := ⟨h5_⟩
  have n6_ : Aside0 (gb126 ≠ gb131) := ⟨h6_⟩
  have n7_ : Aside0 (gb131 ≠ gb126) := ⟨h7_⟩
  have n8_ : Aside0 (gb127 ≠ gb131) := ⟨h8_⟩
  have n9_ : Aside0 (gb131 ≠ gb127) := ⟨h9_⟩
  have n10_ : Aside0 (Below w.heap.size w w9) := ⟨h10_⟩
  clear BK126
  clear BK127
  clear HB
  clear h0_ h1_ h2_ h3_ h4_ h5_ h6_ h7_ h8_ h9_ h10_
  have HO130 := n0_
  have BK126 := n1_
  have BK127 := n2_
  have BK131 := n3_
  have GW131 := n4_
  have GE131 := n5_
  have NB126_131 := n6_
  have NB131_126 := n7_
  have NB127_131 := n8_
  have NB131_127 := n9_
  have HB := n10_
  clear n0_ n1_ n2_ n3_ n4_ n5_ n6_ n7_ n8_ n9_ n10_
  have hHeld : w9.cell? ⟨gb126, 0, none⟩ = some (.int .u8 a0_0) ∧ w9.cell? ⟨gb126, 1, none⟩ = some (.int .u8 a0_1) ∧ w9.cell? ⟨gb126, 2, none⟩ = some (.int .u32 a0_2) ∧ w9.cell? ⟨gb126, 3, none⟩ = some (.slice A0_3 l0_3.length c0_3) ∧ w9.cell? ⟨gb126, 4, none⟩ = some (.slice A0_4 l0_4.length c0_4) := hS_
  obtain ⟨Ao10, co10, eo10⟩ := Kd.R_slice HO130.out
  (first | subst eo10 | (injection eo10 with f1_ f2_ f3_; have f4_ := f1_.symm; have f5_ := f3_.symm; clear f1_ f2_ f3_; subst f4_; subst f5_))
  refine norm_ (a' := ?_) ?_ ?_
  rotate_left
  · simp only [putAll, Act.put, List.setIfInBounds_toArray, List.set_cons_zero, List.set_cons_succ]
    rfl
  refine one_ (i := 11) (N := none) #[true, true, true, true, true, true, true, true, true, true, true, true] rfl rfl (one_of HT_.out (by kernel_rfl)) (by decide) (fun K hK => ?_)
  have hs11 : w9.cell? ⟨gb131, 0, none⟩ = some (.int .u8 0) := (blk_cell BK131.out 0).trans rfl
  have hfs11 := blk_frozen BK131.out 0
  have hns11_0 := NB126_131.out
  have hns11_1 := NB127_131.out
  have hms11_0 := NB131_126.out
  have hms11_1 := NB131_127.out
  have hs12 : w9.cell? ⟨gb131, 1, none⟩ = some (.int .u8 0) := (blk_cell BK131.out 1).trans rfl
  have hfs12 := blk_frozen BK131.out 1
  have hns12_0 := NB126_131.out
  have hns12_1 := NB127_131.out
  have hms12_0 := NB131_126.out
  have hms12_1 := NB131_127.out
  have hs13 : w9.cell? ⟨gb131, 2, none⟩ = some (.int .u32 0) := (blk_cell BK131.out 2).trans rfl
  have hfs13 := blk_frozen BK131.out 2
  have hns13_0 := NB126_131.out
  have hns13_1 := NB127_131.out
  have hms13_0 := NB131_126.out
  have hms13_1 := NB131_127.out
  have hs14 : w9.cell? ⟨gb131, 3, none⟩ = some (.slice none 0 0) := (blk_cell BK131.out 3).trans rfl
  have hfs14 := blk_frozen BK131.out 3
  have hns14_0 := NB126_131.out
  have hns14_1 := NB127_131.out
  have hms14_0 := NB131_126.out
  have hms14_1 := NB131_127.out
  have hs15 : w9.cell? ⟨gb131, 4, none⟩ = some (.slice none 0 0) := (blk_cell BK131.out 4).trans rfl
  have hfs15 := blk_frozen BK131.out 4
  have hns15_0 := NB126_131.out
  have hns15_1 := NB127_131.out
  have hms15_0 := NB131_126.out
  have hms15_1 := NB131_127.out
  refine skip_ (w1 := ?_) (by rfl) rfl ?_ ?_
  rotate_left
  · go_simp
    rfl
  refine hK.out _ _ ⟨((cell_far (p := ⟨gb131, _, none⟩) NB126_131.out _).trans (((cell_far (p := ⟨gb131, _, none⟩) NB126_131.out _).trans (((cell_far (p := ⟨gb131, _, none⟩) NB126_131.out _).trans (((cell_far (p := ⟨gb131, _, none⟩) NB126_131.out _).trans (((cell_far (p := ⟨gb131, _, none⟩) NB126_131.out _).trans (hHeld.1)))))))))), ((cell_far (p := ⟨gb131, _, none⟩) NB126_131.out _).trans (((cell_far (p := ⟨gb131, _, none⟩) NB126_131.out _).trans (((cell_far (p := ⟨gb131, _, none⟩) NB126_131.out _).trans (((cell_far (p := ⟨gb131, _, none⟩) NB126_131.out _).trans (((cell_far (p := ⟨gb131, _, none⟩) NB126_131.out _).trans (hHeld.2.1)))))))))), ((cell_far (p := ⟨gb131, _, none⟩) NB126_131.out _).trans (((cell_far (p := ⟨gb131, _, none⟩) NB126_131.out _).trans (((cell_far (p := ⟨gb131, _, none⟩) NB126_131.out _).trans (((cell_far (p := ⟨gb131, _, none⟩) NB126_131.out _).trans (((cell_far (p := ⟨gb131, _, none⟩) NB126_131.out _).trans (hHeld.2.2.1)))))))))), ((cell_far (p := ⟨gb131, _, none⟩) NB126_131.out _).trans (((cell_far (p := ⟨gb131, _, none⟩) NB126_131.out _).trans (((cell_far (p := ⟨gb131, _, none⟩) NB126_131.out _).trans (((cell_far (p := ⟨gb131, _, none⟩) NB126_131.out _).trans (((cell_far (p := ⟨gb131, _, none⟩) NB126_131.out _).trans (hHeld.2.2.2.1)))))))))), ((cell_far (p := ⟨gb131, _, none⟩) NB126_131.out _).trans (((cell_far (p := ⟨gb131, _, none⟩) NB126_131.out _).trans (((cell_far (p := ⟨gb131, _, none⟩) NB126_131.out _).trans (((cell_far (p := ⟨gb131, _, none⟩) NB126_131.out _).trans (((cell_far (p := ⟨gb131, _, none⟩) NB126_131.out _).trans (hHeld.2.2.2.2))))))))))⟩ (fun hHeld => ?_)
  clear hK K
  refine done_ (done_of HT_.out (by kernel_rfl)) ?_
  have hnb16 := NB126_127.out
  have hnc16 := NB127_126.out
  have hnb17 := NB126_131.out
  have hnc17 := NB131_126.out
  have hcz18_0 : w9.cell? ⟨gb126, 0, none⟩ = some (.int .u8 a0_0) := (blk_cell BK126.out 0).trans rfl
  have hcz18_1 : w9.cell? ⟨gb126, 1, none⟩ = some (.int .u8 a0_1) := (blk_cell BK126.out 1).trans rfl
  have hcz18_2 : w9.cell? ⟨gb126, 2, none⟩ = some (.int .u32 a0_2) := (blk_cell BK126.out 2).trans rfl
  have hcz18_3 : w9.cell? ⟨gb126, 3, none⟩ = some (.slice A0_3 l0_3.length c0_3) := (blk_cell BK126.out 3).trans rfl
  have hcz18_4 : w9.cell? ⟨gb126, 4, none⟩ = some (.slice A0_4 l0_4.length c0_4) := (blk_cell BK126.out 4).trans rfl
  have hfz18_0 := blk_frozen BK126.out 0
  have hfz18_1 := blk_frozen BK126.out 1
  have hfz18_2 := blk_frozen BK126.out 2
  have hfz18_3 := blk_frozen BK126.out 3
  have hfz18_4 := blk_frozen BK126.out 4
  try go_wp2
  go_loopg [19] k (fun kq v19 w' => ∃ (x19_1 : Int) (x132003_1 : List (S89)) (u132003 : Value), v19 = .int .i64 x19_1 ∧ Aside0 (impl_msgIn.l0 kq l0_3 (l0_3.length : Int) x19_1 a0_0 a0_1 a0_2 x132003_1 t128 = some (r1, r2, r3, r4, r5)) ∧ Aside0 (kq ≤ k) ∧ Aside0 (Kd.R k89 89 w' w.heap.size (fun k_ => some k_ ≠ ((.slice Ao10 t128.length co10) : Value).ownBlock) u132003 x132003_1) ∧ Aside0 (Kd.R k80 80 w' w.heap.size (fun _ => True) (.slice Ao10 t128.length co10) t128) ∧ Aside0 (w'.heap[gb126]? = some (.cells #[.int .u8 a0_0, .int .u8 a0_1, .int .u32 a0_2, (.slice A0_3 l0_3.length c0_3), (.slice A0_4 l0_4.length c0_4)] 39 (0, 0))) ∧ Aside0 (w'.heap[gb127]? = some (.cells #[.int .u8 0, .int .u8 0, .int .u32 0, (.slice none 0 0), (.slice none 0 0)] 62 (0, 0))) ∧ Aside0 (w'.heap[gb131]? = some (.cells #[.int .u8 a0_0, .int .u8 a0_1, .int .u32 a0_2, u132003, (.slice Ao10 t128.length co10)] 62 (0, 0))) ∧ Aside0 (Below w.heap.size w w'))
  case atStart => exact ⟨(0), (([] : List (S89))), (.slice none 0 0), (by first | rfl | (simp; done) | (simp [*]; done)), H', ⟨Nat.le_refl _⟩, ⟨by first | exact Kd.R_nil _ _ _ _ _ | exact Kd.N_nil _ _ _ _ _ | exact Kd.V_nil _ _ _ _ _ | exact Kd.Q_nil _ _ _ _ _ | exact Kd.S_nil _ _ _ _ _⟩, ⟨by (with_reducible repeat (first | apply Kd.R_alloc | apply Kd.R_drewN | apply Kd.R_drew)); exact Kd.R_mono (Kd.R_far (p := ⟨gb131, 4, none⟩) (Kd.R_far (p := ⟨gb131, 3, none⟩) (Kd.R_far (p := ⟨gb131, 2, none⟩) (Kd.R_far (p := ⟨gb131, 1, none⟩) (Kd.R_far (p := ⟨gb131, 0, none⟩) (Kd.R_types HO130.out BK131.out (by decide)) (fun _ hk => hk.2) (.int .u8 a0_0)) (fun _ hk => hk.2) (.int .u8 a0_1)) (fun _ hk => hk.2) (.int .u32 a0_2)) (fun _ hk => hk.2) (.slice none 0 0)) (fun _ hk => hk.2) (.slice Ao10 t128.length co10)) (fun _ hk => trivial)⟩, ⟨by (with_reducible repeat (first | refine blk_drewN ?_ _ | refine blk_drew ?_ | refine blk_alloc ?_ _)); refine blk_far ?_ NB126_131.out _; (with_reducible repeat (first | refine blk_drewN ?_ _ | refine blk_drew ?_ | refine blk_alloc ?_ _)); refine blk_far ?_ NB126_131.out _; (with_reducible repeat (first | refine blk_drewN ?_ _ | refine blk_drew ?_ | refine blk_alloc ?_ _)); refine blk_far ?_ NB126_131.out _; (with_reducible repeat (first | refine blk_drewN ?_ _ | refine blk_drew ?_ | refine blk_alloc ?_ _)); refine blk_far ?_ NB126_131.out _; (with_reducible repeat (first | refine blk_drewN ?_ _ | refine blk_drew ?_ | refine blk_alloc ?_ _)); refine blk_far ?_ NB126_131.out _; (with_reducible repeat (first | refine blk_drewN ?_ _ | refine blk_drew ?_ | refine blk_alloc ?_ _)); exact BK126.out⟩, ⟨by (with_reducible repeat (first | refine blk_drewN ?_ _ | refine blk_drew ?_ | refine blk_alloc ?_ _)); refine blk_far ?_ NB127_131.out _; (with_reducible repeat (first | refine blk_drewN ?_ _ | refine blk_drew ?_ | refine blk_alloc ?_ _)); refine blk_far ?_ NB127_131.out _; (with_reducible repeat (first | refine blk_drewN ?_ _ | refine blk_drew ?_ | refine blk_alloc ?_ _)); refine blk_far ?_ NB127_131.out _; (with_reducible repeat (first | refine blk_drewN ?_ _ | refine blk_drew ?_ | refine blk_alloc ?_ _)); refine blk_far ?_ NB127_131.out _; (with_reducible repeat (first | refine blk_drewN ?_ _ | refine blk_drew ?_ | refine blk_alloc ?_ _)); refine blk_far ?_ NB127_131.out _; (with_reducible repeat (first | refine blk_drewN ?_ _ | refine blk_drew ?_ | refine blk_alloc ?_ _)); exact BK127.out⟩, ⟨by (with_reducible repeat (first | refine blk_drewN ?_ _ | refine blk_drew ?_ | refine blk_alloc ?_ _)); refine blk_put (cs := #[.int .u8 a0_0, .int .u8 a0_1, .int .u32 a0_2, .slice none 0 0, .slice none 0 0]) ?_ 4 _ rfl; (with_reducible repeat (first | refine blk_drewN ?_ _ | refine blk_drew ?_ | refine blk_alloc ?_ _)); refine blk_put (cs := #[.int .u8 a0_0, .int .u8 a0_1, .int .u32 a0_2, .slice none 0 0, .slice none 0 0]) ?_ 3 _ rfl; (with_reducible repeat (first | refine blk_drewN ?_ _ | refine blk_drew ?_ | refine blk_alloc ?_ _)); refine blk_put (cs := #[.int .u8 a0_0, .int .u8 a0_1, .int .u32 0, .slice none 0 0, .slice none 0 0]) ?_ 2 _ rfl; (with_reducible repeat (first | refine blk_drewN ?_ _ | refine blk_drew ?_ | refine blk_alloc ?_ _)); refine blk_put (cs := #[.int .u8 a0_0, .int .u8 0, .int .u32 0, .slice none 0 0, .slice none 0 0]) ?_ 1 _ rfl; (with_reducible repeat (first | refine blk_drewN ?_ _ | refine blk_drew ?_ | refine blk_alloc ?_ _)); refine blk_put (cs := #[.int .u8 0, .int .u8 0, .int .u32 0, .slice none 0 0, .slice none 0 0]) ?_ 0 _ rfl; (with_reducible repeat (first | refine blk_drewN ?_ _ | refine blk_drew ?_ | refine blk_alloc ?_ _)); exact BK131.out⟩, ⟨by repeat (first | (with_reducible first | exact HB.out | apply below_alloc | apply pw_below_drewN | apply below_drew1 | refine below_set ?_ GE126.out | refine below_set ?_ GE127.out | refine below_set ?_ GE131.out) | exact HB.out)⟩⟩
  case round =>
    clear H'
    try clear c1
    try clear c2
    try clear p2
    try clear c16
    try clear c17
    try clear hcz18_0
    try clear hcz18_1
    try clear hcz18_2
    try clear hcz18_3
    try clear hcz18_4
    try clear hfz18_0
    try clear hfz18_1
    try clear hfz18_2
    try clear hfz18_3
    try clear hfz18_4
    obtain ⟨x19_1, x132003_1, u132003, rfl, HA, HK1, HO_132003, HO_132004, BK126, BK127, BK131, HB⟩ := hrel
    cases gk with
    | zero => exact absurd HA.out (by simp [impl_msgIn.l0])
    | succ k1 =>
      have H := HA.out
      clear HA
      simp only [impl_msgIn.l0] at H
      by_cases c19 : x19_1 < (l0_3.length : Int)
      · rw [if_pos c19] at H
        have c19b0 : decide (x19_1 < (l0_3.length : Int)) = true := decide_eq_true c19
        clear c19
        by_cases c20 : 0 ≤ x19_1
        · rw [if_pos c20] at H
          have c20b0 : decide (0 ≤ x19_1) = true := decide_eq_true c20
          clear c20
          by_cases c21 : x19_1 < (l0_3.length : Int)
          · rw [if_pos c21] at H
            have c21b0 : decide (x19_1 < (l0_3.length : Int)) = true := decide_eq_true c21
            clear c21
            replace H := Option.bind_eq_some_iff.mp H
            obtain ⟨⟨t134, t135, t136, t137⟩, A220, H⟩ := H
            replace H : (if x132003_1.length < 2199023255552 then (impl_msgIn.l0 k1 l0_3 (l0_3.length : Int) (wrap64 (x19_1 + 1)) a0_0 a0_1 a0_2 (x132003_1 ++ [(⟨(rd_T43 l0_3 x19_1).f0, (⟨t134, t135, t136, t137⟩ : S80)⟩ : S89)]) t128) else (none)) = some (r1, r2, r3, r4, r5) := H
            have A22 := Aside0.mk A220
            clear A220
            by_cases c23 : x132003_1.length < 2199023255552
            · rw [if_pos c23] at H
              have LMc23 := Aside0.mk c23
              clear c23
              obtain ⟨y140, hy140⟩ : ∃ y_ : List (S89), y_ = (x132003_1 ++ [(⟨(rd_T43 l0_3 x19_1).f0, (⟨t134, t135, t136, t137⟩ : S80)⟩ : S89)]) := ⟨_, rfl⟩
              replace H : (impl_msgIn.l0 k1 l0_3 (l0_3.length : Int) (wrap64 (x19_1 + 1)) a0_0 a0_1 a0_2 y140 t128) = some (r1, r2, r3, r4, r5) := by first | (rw [hy140]; with_reducible exact H) | (have H2_ := (Option.bind_some _ _).symm.trans H; rw [hy140]; with_reducible exact H2_) | (have H2_ := (Option.bind_some _ _).symm.trans H; with_reducible exact H2_) | with_reducible exact H | (rw [hy140]; exact H) | exact H
              have Ny140 := Aside0.mk hy140
              clear hy140
              have H' := Aside0.mk H
              clear H
              have p132 : 0 ≤ (x19_1 : Int) := of_decide_eq_true (by first | (with_reducible assumption) | assumption)
              have q132 : x19_1 < (l0_3.length : Int) := of_decide_eq_true (by first | (with_reducible assumption) | assumption)
              obtain ⟨ad132, A132_4, c132_4, e132, hx132_0, hx132_1, hx132_2, hx132_3, hx132_4, hl132_4, hi132_4⟩ := at_T43 HR0_3.out x19_1 p132 q132
              cases e132
              replace hx132_0 := (HB.out.cell (World.block_lt_of_cell? w _ hx132_0)).trans hx132_0
              replace hx132_1 := (HB.out.cell (World.block_lt_of_cell? w _ hx132_1)).trans hx132_1
              replace hx132_2 := (HB.out.cell (World.block_lt_of_cell? w _ hx132_2)).trans hx132_2
              replace hx132_3 := (HB.out.cell (World.block_lt_of_cell? w _ hx132_3)).trans hx132_3
              replace hx132_4 := (HB.out.cell (World.block_lt_of_cell? w _ hx132_4)).trans hx132_4
              have HR132_4 := Aside0.mk hi132_4
              have HC132_4 := Aside0.mk hl132_4
              clear hi132_4 hl132_4
              replace p132 := eq_true p132
              replace q132 := eq_true q132
              try go_wp2_with (first | ((with_reducible refine gate_dst (N := 5) rfl ?_); refine box_event ?hg (N := 5) ?hd (cs := #[.int .u8 0, .int .u8 0, .int .u64 0, .string (⟨#[]⟩ : ByteArray), .slice none 0 0]) (t := 43) ?hr ?_; (case hd => rfl); (case hg => rfl); (case hr => first | (go_simp; done) | (go_simp; rfl)); intro gb133 hg w24 hbox hb; have n0_ := Aside0.mk (Kd.R_below (by (with_reducible repeat (first | apply Kd.R_alloc | apply Kd.R_drewN | apply Kd.R_drew)); exact HO_132003.out) hb); have n1_ := Aside0.mk (Kd.R_below (by (with_reducible repeat (first | apply Kd.R_alloc | apply Kd.R_drewN | apply Kd.R_drew)); exact HO_132004.out) hb); have n2_ := Aside0.mk (blk_below (g := gb126) (o := .cells #[.int .u8 a0_0, .int .u8 a0_1, .int .u32 a0_2, .slice (some ad132) l0_3.length c0_3, .slice A0_4 l0_4.length c0_4] 39 (0, 0)) (by (with_reducible repeat (first | refine blk_drewN ?_ _ | refine blk_drew ?_ | refine blk_alloc ?_ _)); exact BK126.out) hb); have n3_ := Aside0.mk (blk_below (g := gb127) (o := .cells #[.int .u8 0, .int .u8 0, .int .u32 0, .slice none 0 0, .slice none 0 0] 62 (0, 0)) (by (with_reducible repeat (first | refine blk_drewN ?_ _ | refine blk_drew ?_ | refine blk_alloc ?_ _)); exact BK127.out) hb); have n4_ := Aside0.mk (blk_below (g := gb131) (o := .cells #[.int .u8 a0_0, .int .u8 a0_1, .int .u32 a0_2, u132003, .slice Ao10 t128.length co10] 62 (0, 0)) (by (with_reducible repeat (first | refine blk_drewN ?_ _ | refine blk_drew ?_ | refine blk_alloc ?_ _)); exact BK131.out) hb); have n5_ := Aside0.mk (below_step (by repeat (first | (with_reducible first | exact HB.out | apply below_alloc | apply pw_below_drewN | apply below_drew1 | refine below_set ?_ GE126.out | refine below_set ?_ GE127.out | refine below_set ?_ GE131.out) | exact HB.out)) hb); have n6_ := Aside0.mk (hbox); have n7_ := Aside0.mk ((by rw [hg]; exact (below_size (by repeat (first | (with_reducible first | exact HB.out | apply below_alloc | apply pw_below_drewN | apply below_drew1 | refine below_set ?_ GE126.out | refine below_set ?_ GE127.out | refine below_set ?_ GE131.out) | exact HB.out))) : w.heap.size ≤ gb133)); have n8_ := Aside0.mk ((by rw [hg]; exact (below_size (by repeat (first | (with_reducible first | exact HB.out | apply below_alloc | apply pw_below_drewN | apply below_drew1 | refine below_set ?_ GE126.out | refine below_set ?_ GE127.out | refine below_set ?_ GE131.out) | exact HB.out))) : w.heap.size ≤ gb133)); have n9_ := Aside0.mk ((by rw [hg]; exact Nat.ne_of_lt (blk_lt (g := gb126) (o := .cells #[.int .u8 a0_0, .int .u8 a0_1, .int .u32 a0_2, .slice (some ad132) l0_3.length c0_3, .slice A0_4 l0_4.length c0_4] 39 (0, 0)) (by (with_reducible repeat (first | refine blk_drewN ?_ _ | refine blk_drew ?_ | refine blk_alloc ?_ _)); exact BK126.out)) : gb126 ≠ gb133)); have n10_ := Aside0.mk ((by rw [hg]; exact Nat.ne_of_gt (blk_lt (g := gb126) (o := .cells #[.int .u8 a0_0, .int .u8 a0_1, .int .u32 a0_2, .slice (some ad132) l0_3.length c0_3, .slice A0_4 l0_4.length c0_4] 39 (0, 0)) (by (with_reducible repeat (first | refine blk_drewN ?_ _ | refine blk_drew ?_ | refine blk_alloc ?_ _)); exact BK126.out)) : gb133 ≠ gb126)); have n11_ := Aside0.mk ((by rw [hg]; exact Nat.ne_of_lt (blk_lt (g := gb127) (o := .cells #[.int .u8 0, .int .u8 0, .int .u32 0, .slice none 0 0, .slice none 0 0] 62 (0, 0)) (by (with_reducible repeat (first | refine blk_drewN ?_ _ | refine blk_drew ?_ | refine blk_alloc ?_ _)); exact BK127.out)) : gb127 ≠ gb133)); have n12_ := Aside0.mk ((by rw [hg]; exact Nat.ne_of_gt (blk_lt (g := gb127) (o := .cells #[.int .u8 0, .int .u8 0, .int .u32 0, .slice none 0 0, .slice none 0 0] 62 (0, 0)) (by (with_reducible repeat (first | refine blk_drewN ?_ _ | refine blk_drew ?_ | refine blk_alloc ?_ _)); exact BK127.out)) : gb133 ≠ gb127)); have n13_ := Aside0.mk ((by rw [hg]; exact Nat.ne_of_lt (blk_lt (g := gb131) (o := .cells #[.int .u8 a0_0, .int .u8 a0_1, .int .u32 a0_2, u132003, .slice Ao10 t128.length co10] 62 (0, 0)) (by (with_reducible repeat (first | refine blk_drewN ?_ _ | refine blk_drew ?_ | refine blk_alloc ?_ _)); exact BK131.out)) : gb131 ≠ gb133)); have n14_ := Aside0.mk ((by rw [hg]; exact Nat.ne_of_gt (blk_lt (g := gb131) (o := .cells #[.int .u8 a0_0, .int .u8 a0_1, .int .u32 a0_2, u132003, .slice Ao10 t128.length co10] 62 (0, 0)) (by (with_reducible repeat (first | refine blk_drewN ?_ _ | refine blk_drew ?_ | refine blk_alloc ?_ _)); exact BK131.out)) : gb133 ≠ gb131)); clear HO_132003; clear HO_132004; clear BK126; clear BK127; clear BK131; clear HB; have HO_132003 := n0_; have HO_132004 := n1_; have BK126 := n2_; have BK127 := n3_; have BK131 := n4_; have HB := n5_; have BK133 := n6_; have GW133 := n7_; have GE133 := n8_; have NB126_133 := n9_; have NB133_126 := n10_; have NB127_133 := n11_; have NB133_127 := n12_; have NB131_133 := n13_; have NB133_131 := n14_; clear n0_ n1_ n2_ n3_ n4_ n5_ n6_ n7_ n8_ n9_ n10_ n11_ n12_ n13_ n14_; clear hb hbox hg; have hnb25 := NB133_126.out; have hnc25 := NB126_133.out; have hnb26 := NB133_127.out; have hnc26 := NB127_133.out; have hnb27 := NB133_131.out; have hnc27 := NB131_133.out; have hcz28_0 : w24.cell? ⟨gb133, 0, none⟩ = some (.int .u8 0) := (blk_cell BK133.out 0).trans rfl; have hcz28_1 : w24.cell? ⟨gb133, 1, none⟩ = some (.int .u8 0) := (blk_cell BK133.out 1).trans rfl; have hcz28_2 : w24.cell? ⟨gb133, 2, none⟩ = some (.int .u64 0) := (blk_cell BK133.out 2).trans rfl; have hcz28_3 : w24.cell? ⟨gb133, 3, none⟩ = some (.string (⟨#[]⟩ : ByteArray)) := (blk_cell BK133.out 3).trans rfl; have hcz28_4 : w24.cell? ⟨gb133, 4, none⟩ = some (.slice none 0 0) := (blk_cell BK133.out 4).trans rfl; have hfz28_0 := blk_frozen BK133.out 0; have hfz28_1 := blk_frozen BK133.out 1; have hfz28_2 := blk_frozen BK133.out 2; have hfz28_3 := blk_frozen BK133.out 3; have hfz28_4 := blk_frozen BK133.out 4))
              have n0_ : Aside0 (Kd.R k89 89 (((((w24.setCell ⟨gb133, 0, none⟩ (.int .u8 ((rd_T43 l0_3 x19_1).f0))).setCell ⟨gb133, 1, none⟩ (.int .u8 ((rd_T43 l0_3 x19_1).f1.f0))).setCell ⟨gb133, 2, none⟩ (.int .u64 ((rd_T43 l0_3 x19_1).f1.f1))).setCell ⟨gb133, 3, none⟩ (.string ((rd_T43 l0_3 x19_1).f1.f2))).setCell ⟨gb133, 4, none⟩ (.slice A132_4 ((rd_T43 l0_3 x19_1).f1.f3).length c132_4)) w.heap.size (fun k_ => some k_ ≠ (.slice Ao10 t128.length co10 : Value).ownBlock) u132003 x132003_1) := ⟨by (with_reducible repeat (first | apply Kd.R_alloc | apply Kd.R_drewN | apply Kd.R_drew)); exact Kd.R_mono (Kd.R_far (p := ⟨gb133, 4, none⟩) (Kd.R_far (p := ⟨gb133, 3, none⟩) (Kd.R_far (p := ⟨gb133, 2, none⟩) (Kd.R_far (p := ⟨gb133, 1, none⟩) (Kd.R_far (p := ⟨gb133, 0, none⟩) (Kd.R_types HO_132003.out BK133.out (by decide)) (fun _ hk => hk.2) (.int .u8 ((rd_T43 l0_3 x19_1).f0))) (fun _ hk => hk.2) (.int .u8 ((rd_T43 l0_3 x19_1).f1.f0))) (fun _ hk => hk.2) (.int .u64 ((rd_T43 l0_3 x19_1).f1.f1))) (fun _ hk => hk.2) (.string ((rd_T43 l0_3 x19_1).f1.f2))) (fun _ hk => hk.2) (.slice A132_4 ((rd_T43 l0_3 x19_1).f1.f3).length c132_4)) (fun _ hk => hk.1)⟩
              have n1_ : Aside0 (Kd.R k80 80 (((((w24.setCell ⟨gb133, 0, none⟩ (.int .u8 ((rd_T43 l0_3 x19_1).f0))).setCell ⟨gb133, 1, none⟩ (.int .u8 ((rd_T43 l0_3 x19_1).f1.f0))).setCell ⟨gb133, 2, none⟩ (.int .u64 ((rd_T43 l0_3 x19_1).f1.f1))).setCell ⟨gb133, 3, none⟩ (.string ((rd_T43 l0_3 x19_1).f1.f2))).setCell ⟨gb133, 4, none⟩ (.slice A132_4 ((rd_T43 l0_3 x19_1).f1.f3).length c132_4)) w.heap.size (fun _ => True) (.slice Ao10 t128.length co10) t128) := ⟨by (with_reducible repeat (first | apply Kd.R_alloc | apply Kd.R_drewN | apply Kd.R_drew)); exact Kd.R_mono (Kd.R_far (p := ⟨gb133, 4, none⟩) (Kd.R_far (p := ⟨gb133, 3, none⟩) (Kd.R_far (p := ⟨gb133, 2, none⟩) (Kd.R_far (p := ⟨gb133, 1, none⟩) (Kd.R_far (p := ⟨gb133, 0, none⟩) (Kd.R_types HO_132004.out BK133.out (by decide)) (fun _ hk => hk.2) (.int .u8 ((rd_T43 l0_3 x19_1).f0))) (fun _ hk => hk.2) (.int .u8 ((rd_T43 l0_3 x19_1).f1.f0))) (fun _ hk => hk.2) (.int .u64 ((rd_T43 l0_3 x19_1).f1.f1))) (fun _ hk => hk.2) (.string ((rd_T43 l0_3 x19_1).f1.f2))) (fun _ hk => hk.2) (.slice A132_4 ((rd_T43 l0_3 x19_1).f1.f3).length c132_4)) (fun _ hk => trivial)⟩
              have n2_ : Aside0 ((((((w24.setCell ⟨gb133, 0, none⟩ (.int .u8 ((rd_T43 l0_3 x19_1).f0))).setCell ⟨gb133, 1, none⟩ (.int .u8 ((rd_T43 l0_3 x19_1).f1.f0))).setCell ⟨gb133, 2, none⟩ (.int .u64 ((rd_T43 l0_3 x19_1).f1.f1))).setCell ⟨gb133, 3, none⟩ (.string ((rd_T43 l0_3 x19_1).f1.f2))).setCell ⟨gb133, 4, none⟩ (.slice A132_4 ((rd_T43 l0_3 x19_1).f1.f3).length c132_4)).heap[gb126]? = some (.cells #[.int .u8 a0_0, .int .u8 a0_1, .int .u32 a0_2, .slice (some ad132) l0_3.length c0_3, .slice A0_4 l0_4.length c0_4] 39 (0, 0))) := ⟨by (with_reducible repeat (first | refine blk_drewN ?_ _ | refine blk_drew ?_ | refine blk_alloc ?_ _)); refine blk_far ?_ NB126_133.out _; (with_reducible repeat (first | refine blk_drewN ?_ _ | refine blk_drew ?_ | refine blk_alloc ?_ _)); refine blk_far ?_ NB126_133.out _; (with_reducible repeat (first | refine blk_drewN ?_ _ | refine blk_drew ?_ | refine blk_alloc ?_ _)); refine blk_far ?_ NB126_133.out _; (with_reducible repeat (first | refine blk_drewN ?_ _ | refine blk_drew ?_ | refine blk_alloc ?_ _)); refine blk_far ?_ NB126_133.out _; (with_reducible repeat (first | refine blk_drewN ?_ _ | refine blk_drew ?_ | refine blk_alloc ?_ _)); refine blk_far ?_ NB126_133.out _; (with_reducible repeat (first | refine blk_drewN ?_ _ | refine blk_drew ?_ | refine blk_alloc ?_ _)); exact BK126.out⟩
              have n3_ : Aside0 ((((((w24.setCell ⟨gb133, 0, none⟩ (.int .u8 ((rd_T43 l0_3 x19_1).f0))).setCell ⟨gb133, 1, none⟩ (.int .u8 ((rd_T43 l0_3 x19_1).f1.f0))).setCell ⟨gb133, 2, none⟩ (.int .u64 ((rd_T43 l0_3 x19_1).f1.f1))).setCell ⟨gb133, 3, none⟩ (.string ((rd_T43 l0_3 x19_1).f1.f2))).setCell ⟨gb133, 4, none⟩ (.slice A132_4 ((rd_T43 l0_3 x19_1).f1.f3).length c132_4)).heap[gb127]? = some (.cells #[.int .u8 0, .int .u8 0, .int .u32 0, .slice none 0 0, .slice none 0 0] 62 (0, 0))) := ⟨by (with_reducible repeat (first | refine blk_drewN ?_ _ | refine blk_drew ?_ | refine blk_alloc ?_ _)); refine blk_far ?_ NB127_133.out _; (with_reducible repeat (first | refine blk_drewN ?_ _ | refine blk_drew ?_ | refine blk_alloc ?_ _)); refine blk_far ?_ NB127_133.out _; (with_reducible repeat (first | refine blk_drewN ?_ _ | refine blk_drew ?_ | refine blk_alloc ?_ _)); refine blk_far ?_ NB127_133.out _; (with_reducible repeat (first | refine blk_drewN ?_ _ | refine blk_drew ?_ | refine blk_alloc ?_ _)); refine blk_far ?_ NB127_133.out _; (with_reducible repeat (first | refine blk_drewN ?_ _ | refine blk_drew ?_ | refine blk_alloc ?_ _)); refine blk_far ?_ NB127_133.out _; (with_reducible repeat (first | refine blk_drewN ?_ _ | refine blk_drew ?_ | refine blk_alloc ?_ _)); exact BK127.out⟩
              have n4_ : Aside0 ((((((w24.setCell ⟨gb133, 0, none⟩ (.int .u8 ((rd_T43 l0_3 x19_1).f0))).setCell ⟨gb133, 1, none⟩ (.int .u8 ((rd_T43 l0_3 x19_1).f1.f0))).setCell ⟨gb133, 2, none⟩ (.int .u64 ((rd_T43 l0_3 x19_1).f1.f1))).setCell ⟨gb133, 3, none⟩ (.string ((rd_T43 l0_3 x19_1).f1.f2))).setCell ⟨gb133, 4, none⟩ (.slice A132_4 ((rd_T43 l0_3 x19_1).f1.f3).length c132_4)).heap[gb131]? = some (.cells #[.int .u8 a0_0, .int .u8 a0_1, .int .u32 a0_2, u132003, .slice Ao10 t128.length co10] 62 (0, 0))) := ⟨by (with_reducible repeat (first | refine blk_drewN ?_ _ | refine blk_drew ?_ | refine blk_alloc ?_ _)); refine blk_far ?_ NB131_133.out _; (with_reducible repeat (first | refine blk_drewN ?_ _ | refine blk_drew ?_ | refine blk_alloc ?_ _)); refine blk_far ?_ NB131_133.out _; (with_reducible repeat (first | refine blk_drewN ?_ _ | refine blk_drew ?_ | refine blk_alloc ?_ _)); refine blk_far ?_ NB131_133.out _; (with_reducible repeat (first | refine blk_drewN ?_ _ | refine blk_drew ?_ | refine blk_alloc ?_ _)); refine blk_far ?_ NB131_133.out _; (with_reducible repeat (first | refine blk_drewN ?_ _ | refine blk_drew ?_ | refine blk_alloc ?_ _)); refine blk_far ?_ NB131_133.out _; (with_reducible repeat (first | refine blk_drewN ?_ _ | refine blk_drew ?_ | refine blk_alloc ?_ _)); exact BK131.out⟩
              have n5_ : Aside0 ((((((w24.setCell ⟨gb133, 0, none⟩ (.int .u8 ((rd_T43 l0_3 x19_1).f0))).setCell ⟨gb133, 1, none⟩ (.int .u8 ((rd_T43 l0_3 x19_1).f1.f0))).setCell ⟨gb133, 2, none⟩ (.int .u64 ((rd_T43 l0_3 x19_1).f1.f1))).setCell ⟨gb133, 3, none⟩ (.string ((rd_T43 l0_3 x19_1).f1.f2))).setCell ⟨gb133, 4, none⟩ (.slice A132_4 ((rd_T43 l0_3 x19_1).f1.f3).length c132_4)).heap[gb133]? = some (.cells #[.int .u8 ((rd_T43 l0_3 x19_1).f0), .int .u8 ((rd_T43 l0_3 x19_1).f1.f0), .int .u64 ((rd_T43 l0_3 x19_1).f1.f1), .string ((rd_T43 l0_3 x19_1).f1.f2), .slice A132_4 ((rd_T43 l0_3 x19_1).f1.f3).length c132_4] 43 (0, 0))) := ⟨by (with_reducible repeat (first | refine blk_drewN ?_ _ | refine blk_drew ?_ | refine blk_alloc ?_ _)); refine blk_put (cs := #[.int .u8 ((rd_T43 l0_3 x19_1).f0), .int .u8 ((rd_T43 l0_3 x19_1).f1.f0), .int .u64 ((rd_T43 l0_3 x19_1).f1.f1), .string ((rd_T43 l0_3 x19_1).f1.f2), .slice none 0 0]) ?_ 4 _ rfl; (with_reducible repeat (first | refine blk_drewN ?_ _ | refine blk_drew ?_ | refine blk_alloc ?_ _)); refine blk_put (cs := #[.int .u8 ((rd_T43 l0_3 x19_1).f0), .int .u8 ((rd_T43 l0_3 x19_1).f1.f0), .int .u64 ((rd_T43 l0_3 x19_1).f1.f1), .string (⟨#[]⟩ : ByteArray), .slice none 0 0]) ?_ 3 _ rfl; (with_reducible repeat (first | refine blk_drewN ?_ _ | refine blk_drew ?_ | refine blk_alloc ?_ _)); refine blk_put (cs := #[.int .u8 ((rd_T43 l0_3 x19_1).f0), .int .u8 ((rd_T43 l0_3 x19_1).f1.f0), .int .u64 0, .string (⟨#[]⟩ : ByteArray), .slice none 0 0]) ?_ 2 _ rfl; (with_reducible repeat (first | refine blk_drewN ?_ _ | refine blk_drew ?_ | refine blk_alloc ?_ _)); refine blk_put (cs := #[.int .u8 ((rd_T43 l0_3 x19_1).f0), .int .u8 0, .int .u64 0, .string (⟨#[]⟩ : ByteArray), .slice none 0 0]) ?_ 1 _ rfl; (with_reducible repeat (first | refine blk_drewN ?_ _ | refine blk_drew ?_ | refine blk_alloc ?_ _)); refine blk_put (cs := #[.int .u8 0, .int .u8 0, .int .u64 0, .string (⟨#[]⟩ : ByteArray), .slice none 0 0]) ?_ 0 _ rfl; (with_reducible repeat (first | refine blk_drewN ?_ _ | refine blk_drew ?_ | refine blk_alloc ?_ _)); exact BK133.out⟩
              have n6_ : Aside0 (Below w.heap.size w (((((w24.setCell ⟨gb133, 0, none⟩ (.int .u8 ((rd_T43 l0_3 x19_1).f0))).setCell ⟨gb133, 1, none⟩ (.int .u8 ((rd_T43 l0_3 x19_1).f1.f0))).setCell ⟨gb133, 2, none⟩ (.int .u64 ((rd_T43 l0_3 x19_1).f1.f1))).setCell ⟨gb133, 3, none⟩ (.string ((rd_T43 l0_3 x19_1).f1.f2))).setCell ⟨gb133, 4, none⟩ (.slice A132_4 ((rd_T43 l0_3 x19_1).f1.f3).length c132_4))) := ⟨by repeat (first | (with_reducible first | exact HB.out | apply below_alloc | apply pw_below_drewN | apply below_drew1 | refine below_set ?_ GE126.out | refine below_set ?_ GE127.out | refine below_set ?_ GE131.out | refine below_set ?_ GE133.out) | exact HB.out)⟩
              (try clear HO_132003)
              (try clear HO_132004)
              (try clear BK126)
              (try clear BK127)
              (try clear BK131)
              (try clear BK133)
              (try clear HB)
              generalize (((((w24.setCell ⟨gb133, 0, none⟩ (.int .u8 ((rd_T43 l0_3 x19_1).f0))).setCell ⟨gb133, 1, none⟩ (.int .u8 ((rd_T43 l0_3 x19_1).f1.f0))).setCell ⟨gb133, 2, none⟩ (.int .u64 ((rd_T43 l0_3 x19_1).f1.f1))).setCell ⟨gb133, 3, none⟩ (.string ((rd_T43 l0_3 x19_1).f1.f2))).setCell ⟨gb133, 4, none⟩ (.slice A132_4 ((rd_T43 l0_3 x19_1).f1.f3).length c132_4)) = w29 at n0_ n1_ n2_ n3_ n4_ n5_ n6_ ⊢
              have HO_132003 := n0_
              have HO_132004 := n1_
              have BK126 := n2_
              have BK127 := n3_
              have BK131 := n4_
              have BK133 := n5_
              have HB := n6_
              clear n0_ n1_ n2_ n3_ n4_ n5_ n6_
              have n0_ := Aside0.mk (Kd.R_drew HO_132003.out)
              have n1_ := Aside0.mk (Kd.R_drew HO_132004.out)
              have n2_ := Aside0.mk (blk_drew BK126.out)
              have n3_ := Aside0.mk (blk_drew BK127.out)
              have n4_ := Aside0.mk (blk_drew BK131.out)
              have n5_ := Aside0.mk (blk_drew BK133.out)
              have n6_ := Aside0.mk (below_drew1 HB.out)
              clear HO_132003
              clear HO_132004
              clear BK126
              clear BK127
              clear BK131
              clear BK133
              clear HB
              have HO_132003 := n0_
              have HO_132004 := n1_
              have BK126 := n2_
              have BK127 := n3_
              have BK131 := n4_
              have BK133 := n5_
              have HB := n6_
              clear n0_ n1_ n2_ n3_ n4_ n5_ n6_
              refine start_ (n := 12) (S := fun w' => w'.cell? ⟨gb131, 0, none⟩ = some (.int .u8 a0_0) ∧ w'.cell? ⟨gb131, 1, none⟩ = some (.int .u8 a0_1) ∧ w'.cell? ⟨gb131, 2, none⟩ = some (.int .u32 a0_2) ∧ w'.cell? ⟨gb131, 3, none⟩ = some (u132003) ∧ w'.cell? ⟨gb131, 4, none⟩ = some (.slice Ao10 t128.length co10) ∧ w'.cell? ⟨gb133, 0, none⟩ = some (.int .u8 ((rd_T43 l0_3 x19_1).f0)) ∧ w'.cell? ⟨gb133, 1, none⟩ = some (.int .u8 ((rd_T43 l0_3 x19_1).f1.f0)) ∧ w'.cell? ⟨gb133, 2, none⟩ = some (.int .u64 ((rd_T43 l0_3 x19_1).f1.f1)) ∧ w'.cell? ⟨gb133, 3, none⟩ = some (.string ((rd_T43 l0_3 x19_1).f1.f2)) ∧ w'.cell? ⟨gb133, 4, none⟩ = some (.slice A132_4 ((rd_T43 l0_3 x19_1).f1.f3).length c132_4)) (ds := [11]) #[false, false, false, false, false, false, false, false, false, false, false, false] (by kernel_rfl) rfl rfl ⟨(blk_cell BK131.out 0).trans rfl, (blk_cell BK131.out 1).trans rfl, (blk_cell BK131.out 2).trans rfl, (blk_cell BK131.out 3).trans rfl, (blk_cell BK131.out 4).trans rfl, (blk_cell BK133.out 0).trans rfl, (blk_cell BK133.out 1).trans rfl, (blk_cell BK133.out 2).trans rfl, (blk_cell BK133.out 3).trans rfl, (blk_cell BK133.out 4).trans rfl⟩ (fun hHeld => ?_); refine with_tabW impl_msgIn.tab5 impl_msgIn.bits5 (fun HT_ HW_ => ?_)
              generalize w29.drew = w30 at HO_132003 HO_132004 BK126 BK127 BK131 BK133 HB hHeld ⊢
              refine pure_ (i := 0) (N := some 23) (v := ?_) (a' := ?_) #[true, false, false, false, false, false, false, false, false, false, false, false] rfl rfl (any_of HT_.out (by kernel_rfl)) (fun _ _ _ h => h) (Or.inl ⟨by rfl, ?_⟩) ?_ ?_
              rotate_left
              · intro w'
                go_simp
                with_reducible rfl
              rotate_left
              · simp only [Act.put, List.setIfInBounds_toArray, List.set_cons_zero, List.set_cons_succ, i64_w, i32_w]
                rfl
              refine pure_ (i := 2) (N := some 25) (v := ?_) (a' := ?_) #[true, false, true, false, false, false, false, false, false, false, false, false] rfl rfl (any_of HT_.out (by kernel_rfl)) (fun _ _ _ h => h) (Or.inl ⟨by rfl, ?_⟩) ?_ ?_
              rotate_left
              · intro w'
                go_simp
                with_reducible rfl
              rotate_left
              · simp only [Act.put, List.setIfInBounds_toArray, List.set_cons_zero, List.set_cons_succ, i64_w, i32_w]
                rfl
              refine pure_ (i := 4) (N := some 27) (v := ?_) (a' := ?_) #[true, false, true, false, true, false, false, false, false, false, false, false] rfl rfl (any_of HT_.out (by kernel_rfl)) (fun _ _ _ h => h) (Or.inl ⟨by rfl, ?_⟩) ?_ ?_
              rotate_left
              · intro w'
                go_simp
                with_reducible rfl
              rotate_left
              · simp only [Act.put, List.setIfInBounds_toArray, List.set_cons_zero, List.set_cons_succ, i64_w, i32_w]
                rfl
              refine take_ (i := 1) (N := some 24) (v := ?_) (a' := ?_) #[true, true, true, false, true, false, false, false, false, false, false, false] rfl rfl (take_ofW HT_.out HW_.out (by kernel_rfl)) (fun _ _ _ h => h) (Or.inl ⟨by rfl, ?_⟩) hHeld ?_ ?_
              rotate_left
              · rintro w' ⟨s0, s1, s2, s3, s4, s5, s6, s7, s8, s9⟩
                go_simp
                with_reducible rfl
              rotate_left
              · simp only [Act.put, List.setIfInBounds_toArray, List.set_cons_zero, List.set_cons_succ, i64_w, i32_w]
                rfl
              refine take_ (i := 3) (N := some 26) (v := ?_) (a' := ?_) #[true, true, true, true, true, false, false, false, false, false, false, false] rfl rfl (take_ofW HT_.out HW_.out (by kernel_rfl)) (fun _ _ _ h => h) (Or.inl ⟨by rfl, ?_⟩) hHeld ?_ ?_
              rotate_left
              · rintro w' ⟨s0, s1, s2, s3, s4, s5, s6, s7, s8, s9⟩
                go_simp
                with_reducible rfl
              rotate_left
              · simp only [Act.put, List.setIfInBounds_toArray, List.set_cons_zero, List.set_cons_succ, i64_w, i32_w]
                rfl
              refine take_ (i := 5) (N := some 28) (v := ?_) (a' := ?_) #[true, true, true, true, true, true, false, false, false, false, false, false] rfl rfl (take_ofW HT_.out HW_.out (by kernel_rfl)) (fun _ _ _ h => h) (Or.inl ⟨by rfl, ?_⟩) hHeld ?_ ?_
              rotate_left
              · rintro w' ⟨s0, s1, s2, s3, s4, s5, s6, s7, s8, s9⟩
                go_simp
                with_reducible rfl
              rotate_left
              · simp only [Act.put, List.setIfInBounds_toArray, List.set_cons_zero, List.set_cons_succ, i64_w, i32_w]
                rfl
              refine one_ (i := 6) (N := some 29) #[true, true, true, true, true, true, true, false, false, false, false, false] rfl rfl (one_of HT_.out (by kernel_rfl)) (by decide) (fun K hK => ?_)
              refine goes_ Tryz.func29 (by kernel_rfl) rfl #[.agg #[.int .u8 ((rd_T43 l0_3 x19_1).f1.f0), .int .u64 ((rd_T43 l0_3 x19_1).f1.f1), .string ((rd_T43 l0_3 x19_1).f1.f2), .slice A132_4 ((rd_T43 l0_3 x19_1).f1.f3).length c132_4]] (by rfl) rfl rfl (by (try simp only [List.map_toArray, List.map_cons, List.map_nil]); first | done | rfl | (simp only [List.length_drop, List.length_take]; rfl)) ?_
              with_reducible refine (impl_valIn.calls k1 ((rd_T43 l0_3 x19_1).f1.f0) ((rd_T43 l0_3 x19_1).f1.f1) ((rd_T43 l0_3 x19_1).f1.f2) _ _ ((rd_T43 l0_3 x19_1).f1.f3) t134 t135 t136 t137 _ ?side1 ?side2 A22.out).mono ?_
              (case side1 => repeat (first | exact (Kd.C_below HR132_4.out HB.out) | (with_reducible refine Kd.C_alloc ?_ _) | (with_reducible refine Kd.C_drewN ?_ _) | (with_reducible refine Kd.C_drew ?_)))
              (case side2 => exact HC132_4.out)
              rintro e w31 ⟨v138, rfl, ho0, hb⟩
              refine ⟨_, rfl, ?_⟩
              have n0_ := Aside0.mk (Kd.R_elder' (by (with_reducible repeat (first | apply Kd.R_alloc | apply Kd.R_drewN | apply Kd.R_drew)); exact HO_132003.out) (Kd.R_base ho0) hb)
              have n1_ := Aside0.mk (Kd.R_elder' (by (with_reducible repeat (first | apply Kd.R_alloc | apply Kd.R_drewN | apply Kd.R_drew)); exact HO_132004.out) (Kd.R_base ho0) hb)
              have n2_ := Aside0.mk (Kd.R_lower (Kd.R_new' ho0 (Kd.R_lt (by (with_reducible repeat (first | apply Kd.R_alloc | apply Kd.R_drewN | apply Kd.R_drew)); exact HO_132004.out))) (below_size (by repeat (first | (with_reducible first | exact HB.out | apply below_alloc | apply pw_below_drewN | apply below_drew1 | refine below_set ?_ GE126.out | refine below_set ?_ GE127.out | refine below_set ?_ GE131.out | refine below_set ?_ GE133.out) | exact HB.out))))
              have n3_ := Aside0.mk (blk_below (g := gb126) (o := .cells #[.int .u8 a0_0, .int .u8 a0_1, .int .u32 a0_2, .slice (some ad132) l0_3.length c0_3, .slice A0_4 l0_4.length c0_4] 39 (0, 0)) (by (with_reducible repeat (first | refine blk_drewN ?_ _ | refine blk_drew ?_ | refine blk_alloc ?_ _)); exact BK126.out) hb)
              have n4_ := Aside0.mk (blk_below (g := gb127) (o := .cells #[.int .u8 0, .int .u8 0, .int .u32 0, .slice none 0 0, .slice none 0 0] 62 (0, 0)) (by (with_reducible repeat (first | refine blk_drewN ?_ _ | refine blk_drew ?_ | refine blk_alloc ?_ _)); exact BK127.out) hb)
              have n5_ := Aside0.mk (blk_below (g := gb131) (o := .cells #[.int .u8 a0_0, .int .u8 a0_1, .int .u32 a0_2, u132003, .slice Ao10 t128.length co10] 62 (0, 0)) (by (with_reducible repeat (first | refine blk_drewN ?_ _ | refine blk_drew ?_ | refine blk_alloc ?_ _)); exact BK131.out) hb)
              have n6_ := Aside0.mk (blk_below (g := gb133) (o := .cells #[.int .u8 ((rd_T43 l0_3 x19_1).f0), .int .u8 ((rd_T43 l0_3 x19_1).f1.f0), .int .u64 ((rd_T43 l0_3 x19_1).f1.f1), .string ((rd_T43 l0_3 x19_1).f1.f2), .slice A132_4 ((rd_T43 l0_3 x19_1).f1.f3).length c132_4] 43 (0, 0)) (by (with_reducible repeat (first | refine blk_drewN ?_ _ | refine blk_drew ?_ | refine blk_alloc ?_ _)); exact BK133.out) hb)
              have n7_ := Aside0.mk (below_step (by repeat (first | (with_reducible first | exact HB.out | apply below_alloc | apply pw_below_drewN | apply below_drew1 | refine below_set ?_ GE126.out | refine below_set ?_ GE127.out | refine below_set ?_ GE131.out | refine below_set ?_ GE133.out) | exact HB.out)) hb)
              clear HO_132003
              clear HO_132004
              clear BK126
              clear BK127
              clear BK131
              clear BK133
              clear HB
              have HO_132003 := n0_
              have HO_132004 := n1_
              have HO139 := n2_
              have BK126 := n3_
              have BK127 := n4_
              have BK131 := n5_
              have BK133 := n6_
              have HB := n7_
              clear n0_ n1_ n2_ n3_ n4_ n5_ n6_ n7_
              (try clear hb)
              (try clear hb2)
              (try clear hk)
              (try clear hi)
              (try clear ho0)
              obtain ⟨Ao32, co32, eo32⟩ := Kd.R_slice HO139.out
              (first | subst eo32 | (injection eo32 with f1_ f2_ f3_; have f4_ := f1_.symm; have f5_ := f3_.symm; clear f1_ f2_ f3_; subst f4_; subst f5_))
              refine hK.out _ _ ⟨(blk_cell BK131.out 0).trans rfl, (blk_cell BK131.out 1).trans rfl, (blk_cell BK131.out 2).trans rfl, (blk_cell BK131.out 3).trans rfl, (blk_cell BK131.out 4).trans rfl, (blk_cell BK133.out 0).trans rfl, (blk_cell BK133.out 1).trans rfl, (blk_cell BK133.out 2).trans rfl, (blk_cell BK133.out 3).trans rfl, (blk_cell BK133.out 4).trans rfl⟩ (fun hHeld => ?_)
              clear hK K
              refine norm_ (a' := ?_) ?_ ?_
              rotate_left
              · show Act.put _ (some 29) _ = _
                simp only [Act.put, List.setIfInBounds_toArray, List.set_cons_zero, List.set_cons_succ, i64_w, i32_w]
                rfl
              refine pure_ (i := 7) (N := some 30) (v := ?_) (a' := ?_) #[true, true, true, true, true, true, true, true, false, false, false, false] rfl rfl (any_of HT_.out (by kernel_rfl)) (fun _ _ _ h => h) (Or.inl ⟨by rfl, ?_⟩) ?_ ?_
              rotate_left
              · intro w'
                go_simp
                with_reducible rfl
              rotate_left
              · simp only [Act.put, List.setIfInBounds_toArray, List.set_cons_zero, List.set_cons_succ, i64_w, i32_w]
                rfl
              refine one_ (i := 8) (N := some 31) #[true, true, true, true, true, true, true, true, true, false, false, false] rfl rfl (one_of HT_.out (by kernel_rfl)) (by decide) (fun K hK => ?_)
              refine value_ (w1 := ?_) (v := ?_) (by rfl) rfl ?_ ?_
              rotate_left 2
              · go_simp
                constructor
                · rfl
                · rfl
              refine hK.out _ _ ⟨(blk_cell (blk_alloc BK131.out _) 0).trans rfl, (blk_cell (blk_alloc BK131.out _) 1).trans rfl, (blk_cell (blk_alloc BK131.out _) 2).trans rfl, (blk_cell (blk_alloc BK131.out _) 3).trans rfl, (blk_cell (blk_alloc BK131.out _) 4).trans rfl, (blk_cell (blk_alloc BK133.out _) 0).trans rfl, (blk_cell (blk_alloc BK133.out _) 1).trans rfl, (blk_cell (blk_alloc BK133.out _) 2).trans rfl, (blk_cell (blk_alloc BK133.out _) 3).trans rfl, (blk_cell (blk_alloc BK133.out _) 4).trans rfl⟩ (fun hHeld => ?_)
              clear hK K
              refine norm_ (a' := ?_) ?_ ?_
              rotate_left
              · show Act.put _ (some 31) _ = _
                simp only [Act.put, List.setIfInBounds_toArray, List.set_cons_zero, List.set_cons_succ, i64_w, i32_w]
                rfl
              refine one_ (i := 9) (N := some 32) #[true, true, true, true, true, true, true, true, true, true, false, false] rfl rfl (one_of HT_.out (by kernel_rfl)) (by decide) (fun K hK => ?_)
              refine Kd.R_append_step k89 (w0 := w) w.heap.size (by rfl) (.tmp 24) (.tmp 31) 60 89 (.agg #[(.int .u8 0), (.int .u8 0), (.int .u64 0), (.string ⟨#[]⟩), (.slice none 0 0)]) 64 rfl Tryz.underlying60 info89 rfl (by decide) (by omega) u132003 x132003_1 (⟨(rd_T43 l0_3 x19_1).f0, (⟨t134, t135, t136, t137⟩ : S80)⟩ : S89) [.int .u8 ((rd_T43 l0_3 x19_1).f0), .int .u8 t134, .int .u64 t135, .string t136, .slice Ao32 t137.length co32] (fun k_ => some k_ ≠ (.slice Ao10 t128.length co10 : Value).ownBlock) (fun k_ => ((fun k_ => some k_ ≠ (.slice Ao10 t128.length co10 : Value).ownBlock)) k_ ∧ some k_ ≠ (u132003 : Value).ownBlock) rfl rfl ?aP (fun _ hk => hk) ?aF ?aO ?aB ?aS ?aL ?_
              (case aP => exact k89_mkM _ _ _ (⟨(rd_T43 l0_3 x19_1).f0, (⟨t134, t135, t136, t137⟩ : S80)⟩ : S89) (Kd.R_mono (Kd.R_apart' (HO139.out) (Kd.R_typed HO_132003.out) (by decide)) (fun k_ hk => ⟨hk.1.2, hk.2⟩)))
              (case aB => exact (by repeat (first | (with_reducible first | exact HB.out | apply below_alloc | apply pw_below_drewN | apply below_drew1 | refine below_set ?_ GE126.out | refine below_set ?_ GE127.out | refine below_set ?_ GE131.out | refine below_set ?_ GE133.out) | exact HB.out)))
              (case aF => exact (fun k_ hk => Kd.fresh' (Kd.R_lt (by (with_reducible repeat (first | apply Kd.R_alloc | apply Kd.R_drewN | apply Kd.R_drew)); exact HO_132004.out)) k_ hk))
              (case aO => exact (by (with_reducible repeat (first | apply Kd.R_alloc | apply Kd.R_drewN | apply Kd.R_drew)); exact Kd.R_mono HO_132003.out (fun _ hk => hk.1)))
              (case aS => exact (below_size (by repeat (first | (with_reducible first | exact HB.out | apply below_alloc | apply pw_below_drewN | apply below_drew1 | refine below_set ?_ GE126.out | refine below_set ?_ GE127.out | refine below_set ?_ GE131.out | refine below_set ?_ GE133.out) | exact HB.out))))
              (case aL => have := LMc23.out; omega)
              intro v141 w33 ho hb hg hat
              rw [← Ny140.out] at ho
              have n0_ := Aside0.mk (Kd.R_over' (by (with_reducible repeat (first | apply Kd.R_alloc | apply Kd.R_drewN | apply Kd.R_drew)); exact HO_132004.out) (Kd.R_typed (by (with_reducible repeat (first | apply Kd.R_alloc | apply Kd.R_drewN | apply Kd.R_drew)); exact HO_132003.out)) (by decide) hg)
              have n1_ := Aside0.mk (blk_grown (g := gb126) (o := .cells #[.int .u8 a0_0, .int .u8 a0_1, .int .u32 a0_2, .slice (some ad132) l0_3.length c0_3, .slice A0_4 l0_4.length c0_4] 39 (0, 0)) (by (with_reducible repeat (first | refine blk_drewN ?_ _ | refine blk_drew ?_ | refine blk_alloc ?_ _)); exact BK126.out) hg (Kd.R_ne HO_132003.out BK126.out (by decide)))
              have n2_ := Aside0.mk (blk_grown (g := gb127) (o := .cells #[.int .u8 0, .int .u8 0, .int .u32 0, .slice none 0 0, .slice none 0 0] 62 (0, 0)) (by (with_reducible repeat (first | refine blk_drewN ?_ _ | refine blk_drew ?_ | refine blk_alloc ?_ _)); exact BK127.out) hg (Kd.R_ne HO_132003.out BK127.out (by decide)))
              have n3_ := Aside0.mk (blk_grown (g := gb131) (o := .cells #[.int .u8 a0_0, .int .u8 a0_1, .int .u32 a0_2, u132003, .slice Ao10 t128.length co10] 62 (0, 0)) (by (with_reducible repeat (first | refine blk_drewN ?_ _ | refine blk_drew ?_ | refine blk_alloc ?_ _)); exact BK131.out) hg (Kd.R_ne HO_132003.out BK131.out (by decide)))
              have n4_ := Aside0.mk (blk_grown (g := gb133) (o := .cells #[.int .u8 ((rd_T43 l0_3 x19_1).f0), .int .u8 ((rd_T43 l0_3 x19_1).f1.f0), .int .u64 ((rd_T43 l0_3 x19_1).f1.f1), .string ((rd_T43 l0_3 x19_1).f1.f2), .slice A132_4 ((rd_T43 l0_3 x19_1).f1.f3).length c132_4] 43 (0, 0)) (by (with_reducible repeat (first | refine blk_drewN ?_ _ | refine blk_drew ?_ | refine blk_alloc ?_ _)); exact BK133.out) hg (Kd.R_ne HO_132003.out BK133.out (by decide)))
              have n5_ := Aside0.mk (hb)
              have n6_ := Aside0.mk (ho)
              clear HO_132004
              clear BK126
              clear BK127
              clear BK131
              clear BK133
              clear HB
              clear HO_132003
              clear HO139
              have HO_132004 := n0_
              have BK126 := n1_
              have BK127 := n2_
              have BK131 := n3_
              have BK133 := n4_
              have HB := n5_
              have HO142 := n6_
              clear n0_ n1_ n2_ n3_ n4_ n5_ n6_
              clear ho hb hg hat
              obtain ⟨Ao34, co34, eo34⟩ := Kd.R_slice HO142.out
              (first | subst eo34 | (injection eo34 with f1_ f2_ f3_; have f4_ := f1_.symm; have f5_ := f3_.symm; clear f1_ f2_ f3_; subst f4_; subst f5_))
              refine hK.out _ _ ⟨(blk_cell BK131.out 0).trans rfl, (blk_cell BK131.out 1).trans rfl, (blk_cell BK131.out 2).trans rfl, (blk_cell BK131.out 3).trans rfl, (blk_cell BK131.out 4).trans rfl, (blk_cell BK133.out 0).trans rfl, (blk_cell BK133.out 1).trans rfl, (blk_cell BK133.out 2).trans rfl, (blk_cell BK133.out 3).trans rfl, (blk_cell BK133.out 4).trans rfl⟩ (fun hHeld => ?_)
              clear hK K
              refine norm_ (a' := ?_) ?_ ?_
              rotate_left
              · show Act.put _ (some 32) _ = _
                simp only [Act.put, List.setIfInBounds_toArray, List.set_cons_zero, List.set_cons_succ, i64_w, i32_w]
                rfl
              refine pure_ (i := 10) (N := some 33) (v := ?_) (a' := ?_) #[true, true, true, true, true, true, true, true, true, true, true, false] rfl rfl (any_of HT_.out (by kernel_rfl)) (fun _ _ _ h => h) (Or.inl ⟨by rfl, ?_⟩) ?_ ?_
              rotate_left
              · intro w'
                go_simp
                with_reducible rfl
              rotate_left
              · simp only [Act.put, List.setIfInBounds_toArray, List.set_cons_zero, List.set_cons_succ, i64_w, i32_w]
                rfl
              refine last_ (i := 11) (N := none) #[true, true, true, true, true, true, true, true, true, true, true, true] rfl rfl (one_of HT_.out (by kernel_rfl)) (by decide) (fun K hK => ?_)
              have hs35 : w33.cell? ⟨gb131, 3, none⟩ = some (u132003) := (blk_cell BK131.out 3).trans rfl
              have hfs35 := blk_frozen BK131.out 3
              have hns35_0 := NB126_131.out
              have hns35_1 := NB127_131.out
              have hns35_3 := NB133_131.out
              have hms35_0 := NB131_126.out
              have hms35_1 := NB131_127.out
              have hms35_3 := NB131_133.out
              refine skip_ (w1 := ?_) (by rfl) rfl ?_ ?_
              rotate_left
              · go_simp
                rfl
              refine hK.out _ _ ?_
              clear hK K
              refine done_ (done_of HT_.out (by kernel_rfl)) ?_
              try go_wp2
              go_roundg k1
              case measure => have := HK1.out; omega
              case rel => exact ⟨(wrap64 (x19_1 + 1)), (y140), (.slice Ao34 y140.length co34), (by first | rfl | (simp; done) | (simp [*]; done)), H', ⟨by have := HK1.out; omega⟩, ⟨by (with_reducible repeat (first | apply Kd.R_alloc | apply Kd.R_drewN | apply Kd.R_drew)); exact Kd.R_mono (Kd.R_far (p := ⟨gb131, 3, none⟩) (Kd.R_types HO142.out BK131.out (by decide)) (fun _ hk => hk.2) (.slice Ao34 y140.length co34)) (fun _ hk => hk.1)⟩, ⟨by (with_reducible repeat (first | apply Kd.R_alloc | apply Kd.R_drewN | apply Kd.R_drew)); exact Kd.R_mono (Kd.R_far (p := ⟨gb131, 3, none⟩) (Kd.R_types HO_132004.out BK131.out (by decide)) (fun _ hk => hk.2) (.slice Ao34 y140.length co34)) (fun _ hk => trivial)⟩, ⟨by (with_reducible repeat (first | refine blk_drewN ?_ _ | refine blk_drew ?_ | refine blk_alloc ?_ _)); refine blk_far ?_ NB126_131.out _; (with_reducible repeat (first | refine blk_drewN ?_ _ | refine blk_drew ?_ | refine blk_alloc ?_ _)); exact BK126.out⟩, ⟨by (with_reducible repeat (first | refine blk_drewN ?_ _ | refine blk_drew ?_ | refine blk_alloc ?_ _)); refine blk_far ?_ NB127_131.out _; (with_reducible repeat (first | refine blk_drewN ?_ _ | refine blk_drew ?_ | refine blk_alloc ?_ _)); exact BK127.out⟩, ⟨by (with_reducible repeat (first | refine blk_drewN ?_ _ | refine blk_drew ?_ | refine blk_alloc ?_ _)); refine blk_put (cs := #[.int .u8 a0_0, .int .u8 a0_1, .int .u32 a0_2, u132003, .slice Ao10 t128.length co10]) ?_ 3 _ rfl; (with_reducible repeat (first | refine blk_drewN ?_ _ | refine blk_drew ?_ | refine blk_alloc ?_ _)); exact BK131.out⟩, ⟨by repeat (first | (with_reducible first | exact HB.out | apply below_alloc | apply pw_below_drewN | apply below_drew1 | refine below_set ?_ GE126.out | refine below_set ?_ GE127.out | refine below_set ?_ GE131.out | refine below_set ?_ GE133.out) | exact HB.out)⟩⟩
            · rw [if_neg c23] at H
              exact absurd H (by simp)
          · rw [if_neg c21] at H
            exact absurd H (by simp)
        · rw [if_neg c20] at H
          exact absurd H (by simp)
      · rw [if_neg c19] at H
        have c19b0 : decide (x19_1 < (l0_3.length : Int)) = false := decide_eq_false c19
        clear c19
        simp only [Option.some.injEq, Prod.mk.injEq] at H
        obtain ⟨rfl, rfl, rfl, rfl, rfl⟩ := H
        have hnb36 := NB131_126.out
        have hnc36 := NB126_131.out
        have hnb37 := NB131_127.out
        have hnc37 := NB127_131.out
        have hcz38_0 : wr.cell? ⟨gb131, 0, none⟩ = some (.int .u8 a0_0) := (blk_cell BK131.out 0).trans rfl
        have hcz38_1 : wr.cell? ⟨gb131, 1, none⟩ = some (.int .u8 a0_1) := (blk_cell BK131.out 1).trans rfl
        have hcz38_2 : wr.cell? ⟨gb131, 2, none⟩ = some (.int .u32 a0_2) := (blk_cell BK131.out 2).trans rfl
        have hcz38_3 : wr.cell? ⟨gb131, 3, none⟩ = some (u132003) := (blk_cell BK131.out 3).trans rfl
        have hcz38_4 : wr.cell? ⟨gb131, 4, none⟩ = some (.slice Ao10 t128.length co10) := (blk_cell BK131.out 4).trans rfl
        have hfz38_0 := blk_frozen BK131.out 0
        have hfz38_1 := blk_frozen BK131.out 1
        have hfz38_2 := blk_frozen BK131.out 2
        have hfz38_3 := blk_frozen BK131.out 3
        have hfz38_4 := blk_frozen BK131.out 4
        have hnb39 := NB127_126.out
        have hnc39 := NB126_127.out
        have hcz40_0 : wr.cell? ⟨gb127, 0, none⟩ = some (.int .u8 0) := (blk_cell BK127.out 0).trans rfl
        have hcz40_1 : wr.cell? ⟨gb127, 1, none⟩ = some (.int .u8 0) := (blk_cell BK127.out 1).trans rfl
        have hcz40_2 : wr.cell? ⟨gb127, 2, none⟩ = some (.int .u32 0) := (blk_cell BK127.out 2).trans rfl
        have hcz40_3 : wr.cell? ⟨gb127, 3, none⟩ = some (.slice none 0 0) := (blk_cell BK127.out 3).trans rfl
        have hcz40_4 : wr.cell? ⟨gb127, 4, none⟩ = some (.slice none 0 0) := (blk_cell BK127.out 4).trans rfl
        have hfz40_0 := blk_frozen BK127.out 0
        have hfz40_1 := blk_frozen BK127.out 1
        have hfz40_2 := blk_frozen BK127.out 2
        have hfz40_3 := blk_frozen BK127.out 3
        have hfz40_4 := blk_frozen BK127.out 4
        obtain ⟨Ao41, co41, eo41⟩ := Kd.R_slice HO_132003.out
        subst eo41
        go_wp2
        refine bodyPost_ret (results_cell_row rfl _ _ gb127 62 #[.int .u8 a0_0, .int .u8 a0_1, .int .u32 a0_2, .slice Ao41 x132003_1.length co41, .slice Ao10 t128.length co10] (0, 0) _ rfl (by (with_reducible repeat (first | refine blk_drewN ?_ _ | refine blk_drew ?_ | refine blk_alloc ?_ _)); refine blk_put (cs := #[.int .u8 a0_0, .int .u8 a0_1, .int .u32 a0_2, .slice Ao41 x132003_1.length co41, .slice none 0 0]) ?_ 4 _ rfl; (with_reducible repeat (first | refine blk_drewN ?_ _ | refine blk_drew ?_ | refine blk_alloc ?_ _)); refine blk_put (cs := #[.int .u8 a0_0, .int .u8 a0_1, .int .u32 a0_2, .slice none 0 0, .slice none 0 0]) ?_ 3 _ rfl; (with_reducible repeat (first | refine blk_drewN ?_ _ | refine blk_drew ?_ | refine blk_alloc ?_ _)); refine blk_put (cs := #[.int .u8 a0_0, .int .u8 a0_1, .int .u32 0, .slice none 0 0, .slice none 0 0]) ?_ 2 _ rfl; (with_reducible repeat (first | refine blk_drewN ?_ _ | refine blk_drew ?_ | refine blk_alloc ?_ _)); refine blk_put (cs := #[.int .u8 a0_0, .int .u8 0, .int .u32 0, .slice none 0 0, .slice none 0 0]) ?_ 1 _ rfl; (with_reducible repeat (first | refine blk_drewN ?_ _ | refine blk_drew ?_ | refine blk_alloc ?_ _)); refine blk_put (cs := #[.int .u8 0, .int .u8 0, .int .u32 0, .slice none 0 0, .slice none 0 0]) ?_ 0 _ rfl; (with_reducible repeat (first | refine blk_drewN ?_ _ | refine blk_drew ?_ | refine blk_alloc ?_ _)); exact BK127.out) Tryz.underlying62 rfl (by kernel_rfl)) rfl ?_
        exact ⟨_, _, by first | rfl | (simp [errW_none, errW_some] <;> rfl) | (simp [*, errW_none, errW_some] <;> rfl), by (with_reducible repeat (first | apply Kd.R_alloc | apply Kd.R_drewN | apply Kd.R_drew)); exact Kd.R_mono (Kd.R_far (p := ⟨gb127, 4, none⟩) (Kd.R_far (p := ⟨gb127, 3, none⟩) (Kd.R_far (p := ⟨gb127, 2, none⟩) (Kd.R_far (p := ⟨gb127, 1, none⟩) (Kd.R_far (p := ⟨gb127, 0, none⟩) (Kd.R_types HO_132003.out BK127.out (by decide)) (fun _ hk => hk.2) (.int .u8 a0_0)) (fun _ hk => hk.2) (.int .u8 a0_1)) (fun _ hk => hk.2) (.int .u32 a0_2)) (fun _ hk => hk.2) (.slice Ao41 x132003_1.length co41)) (fun _ hk => hk.2) (.slice Ao10 t128.length co10)) (fun _ hk => hk.1), by (with_reducible repeat (first | apply Kd.R_alloc | apply Kd.R_drewN | apply Kd.R_drew)); exact Kd.R_mono (Kd.R_far (p := ⟨gb127, 4, none⟩) (Kd.R_far (p := ⟨gb127, 3, none⟩) (Kd.R_far (p := ⟨gb127, 2, none⟩) (Kd.R_far (p := ⟨gb127, 1, none⟩) (Kd.R_far (p := ⟨gb127, 0, none⟩) (Kd.R_types HO_132004.out BK127.out (by decide)) (fun _ hk => hk.2) (.int .u8 a0_0)) (fun _ hk => hk.2) (.int .u8 a0_1)) (fun _ hk => hk.2) (.int .u32 a0_2)) (fun _ hk => hk.2) (.slice Ao41 x132003_1.length co41)) (fun _ hk => hk.2) (.slice Ao10 t128.length co10)) (fun _ hk => trivial), by repeat (first | (with_reducible first | exact HB.out | apply below_alloc | apply pw_below_drewN | apply below_drew1 | refine below_set ?_ GE126.out | refine below_set ?_ GE127.out | refine below_set ?_ GE131.out) | exact HB.out)⟩
end Go.Proofs.YtldjigfnagfalaaGreatDoor.PMi

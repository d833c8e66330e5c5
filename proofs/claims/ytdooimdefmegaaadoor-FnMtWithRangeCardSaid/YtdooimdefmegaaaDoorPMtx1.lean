-- Written by a program of this session (wip/tools/myprint.py) for this claim.
import Derived.Test.YtdooimdefmegaaaDoorPMtx0
namespace Go.Proofs.YtdooimdefmegaaaDoor.PMt
open Go.RowKit Go.Proofs.YtdooimdefmegaaaDoorW.PrintWords Go.Proofs.YtdooimdefmegaaaDoorW.PrintLast Go.Proofs.YtdooimdefmegaaaDoorW.PrintMore
attribute [local go_sem] max2_int min2_int max_two min_two max_three min_three max_four min_four   -- for this text's walks alone
set_option linter.unusedVariables false
set_option linter.unusedSimpArgs false

/-! ### laws_FnMtWithRange: function 5 -/
def laws_FnMtWithRange.f (a0 : Int) (a1 : Bool) : Option (Bool) := if a1 = true then ((Given.MtWith.f 7 a0 (⟨#[120]⟩ : ByteArray)).bind fun bt101 => ((Given.MtWith.f 7 63 (⟨#[120]⟩ : ByteArray)).bind fun bt104 => (if a0 ≥ 0 then (if (bt101.2.2 == (decide (a0 ≤ 63))) = true then (some bt104.2.2) else (some false)) else (if (bt101.2.2 == false) = true then (some bt104.2.2) else (some false))))) else ((Given.MtWith.f 6 a0 (⟨#[120]⟩ : ByteArray)).bind fun bt107 => ((Given.MtWith.f 6 63 (⟨#[120]⟩ : ByteArray)).bind fun bt110 => (if a0 ≥ 0 then (if (bt107.2.2 == (decide (a0 ≤ 63))) = true then (some bt110.2.2) else (some false)) else (if (bt107.2.2 == false) = true then (some bt110.2.2) else (some false)))))
set_option maxHeartbeats 8000000 in
set_option maxRecDepth 100000 in
theorem laws_FnMtWithRange.calls (a0 : Int) (a1 : Bool) (r : Bool) (w : World) (h : laws_FnMtWithRange.f a0 a1 = some r) :
    Calls Tryd.prog 5 #[.int .i64 a0, .bool a1] w fun e w' => e = .returned (.bool r) ∧ Below w.heap.size w w' := by
  have HB := Aside0.mk (Below.refl w.heap.size w)
  have H : (if a1 = true then ((Given.MtWith.f 7 a0 (⟨#[120]⟩ : ByteArray)).bind fun bt101 => ((Given.MtWith.f 7 63 (⟨#[120]⟩ : ByteArray)).bind fun bt104 => (if a0 ≥ 0 then (if (bt101.2.2 == (decide (a0 ≤ 63))) = true then (some bt104.2.2) else (some false)) else (if (bt101.2.2 == false) = true then (some bt104.2.2) else (some false))))) else ((Given.MtWith.f 6 a0 (⟨#[120]⟩ : ByteArray)).bind fun bt107 => ((Given.MtWith.f 6 63 (⟨#[120]⟩ : ByteArray)).bind fun bt110 => (if a0 ≥ 0 then (if (bt107.2.2 == (decide (a0 ≤ 63))) = true then (some bt110.2.2) else (some false)) else (if (bt107.2.2 == false) = true then (some bt110.2.2) else (some false)))))) = some r := h
  clear h
  by_cases c3 : a1 = true
  · subst c3
    have H1 : ((Given.MtWith.f 7 a0 (⟨#[120]⟩ : ByteArray)).bind fun bt101 => ((Given.MtWith.f 7 63 (⟨#[120]⟩ : ByteArray)).bind fun bt104 => (if a0 ≥ 0 then (if (bt101.2.2 == (decide (a0 ≤ 63))) = true then (some bt104.2.2) else (some false)) else (if (bt101.2.2 == false) = true then (some bt104.2.2) else (some false))))) = some r := by rw [if_pos rfl] at H; exact H
    clear H
    have H := H1
    clear H1
    replace H := Option.bind_eq_some_iff.mp H
    obtain ⟨⟨t101, t102, t103⟩, A40, H⟩ := H
    replace H : ((Given.MtWith.f 7 63 (⟨#[120]⟩ : ByteArray)).bind fun bt104 => (if a0 ≥ 0 then (if (t103 == (decide (a0 ≤ 63))) = true then (some bt104.2.2) else (some false)) else (if (t103 == false) = true then (some bt104.2.2) else (some false)))) = some r := H
    have A4 := Aside0.mk A40
    clear A40
    replace H := Option.bind_eq_some_iff.mp H
    obtain ⟨⟨t104, t105, t106⟩, A50, H⟩ := H
    replace H : (if a0 ≥ 0 then (if (t103 == (decide (a0 ≤ 63))) = true then (some t106) else (some false)) else (if (t103 == false) = true then (some t106) else (some false))) = some r := H
    have A5 := Aside0.mk A50
    clear A50
    by_cases c6 : a0 ≥ 0
    · rw [if_pos c6] at H
      have c6b0 : decide (0 ≤ a0) = true := decide_eq_true c6
      clear c6
      by_cases c7 : (t103 == (decide (a0 ≤ 63))) = true
      · rw [if_pos c7] at H
        have c7b0 : (t103 == (decide (a0 ≤ 63))) = true := c7
        (try (have c7b1 : decide (t103 = (decide (a0 ≤ 63))) = true := by simpa using c7))
        (try (have c7b2 : (t103 == (decide (a0 ≤ 63))) = true := by simpa using c7))
        clear c7
        obtain rfl := Option.some.inj H
        go_enter Tryd.func5, Tryd.ntmps5
        go_wp2_with (first | ((with_reducible refine gate_callee (f := 10) rfl ?_); refine goesL_ (some 16) rfl rfl Tryd.func10 (by kernel_rfl) rfl #[.int .i64 7, .int .i64 a0, .string (⟨#[120]⟩ : ByteArray)] rfl (by (try simp only [List.map_toArray, List.map_cons, List.map_nil]); first | done | rfl | (simp only [List.length_drop, List.length_take]; rfl)) ?_; (with_reducible refine (Given.MtWith.calls 7 a0 (⟨#[120]⟩ : ByteArray) t101 t102 t103 _ A4.out).mono ?_); rintro e w8 ⟨rfl, hb⟩; refine ⟨_, rfl, ?_⟩; have n0_ := Aside0.mk (below_step (by repeat (first | (with_reducible first | exact HB.out | apply below_alloc | apply pw_below_drewN | apply below_drew1) | exact HB.out)) hb); clear HB; have HB := n0_; clear n0_; (try clear hb); (try clear hb2); (try clear hk); (try clear hi)) | ((with_reducible refine gate_callee (f := 10) rfl ?_); refine goesL_ (some 22) rfl rfl Tryd.func10 (by kernel_rfl) rfl #[.int .i64 7, .int .i64 63, .string (⟨#[120]⟩ : ByteArray)] rfl (by (try simp only [List.map_toArray, List.map_cons, List.map_nil]); first | done | rfl | (simp only [List.length_drop, List.length_take]; rfl)) ?_; (with_reducible refine (Given.MtWith.calls 7 63 (⟨#[120]⟩ : ByteArray) t104 t105 t106 _ A5.out).mono ?_); rintro e w9 ⟨rfl, hb⟩; refine ⟨_, rfl, ?_⟩; have n0_ := Aside0.mk (below_step (by repeat (first | (with_reducible first | exact HB.out | apply below_alloc | apply pw_below_drewN | apply below_drew1) | exact HB.out)) hb); clear HB; have HB := n0_; clear n0_; (try clear hb); (try clear hb2); (try clear hk); (try clear hi)))
        go_ret
        exact ⟨by first | rfl | (simp [errW_none, errW_some] <;> rfl) | (simp [*, errW_none, errW_some] <;> rfl), by repeat (first | (with_reducible first | exact HB.out | apply below_alloc | apply pw_below_drewN | apply below_drew1) | exact HB.out)⟩
      · rw [if_neg c7] at H
        have c7b0 : (t103 == (decide (a0 ≤ 63))) = false := by simpa using c7
        (try (have c7b1 : decide (t103 = (decide (a0 ≤ 63))) = false := by simpa using c7))
        (try (have c7b2 : (t103 == (decide (a0 ≤ 63))) = false := by simpa using c7))
        (try (have c7b3 : ¬ (t103 = (decide (a0 ≤ 63))) := by simpa using c7))
        clear c7
        obtain rfl := Option.some.inj H
        go_enter Tryd.func5, Tryd.ntmps5
        go_wp2_with (first | ((with_reducible refine gate_callee (f := 10) rfl ?_); refine goesL_ (some 16) rfl rfl Tryd.func10 (by kernel_rfl) rfl #[.int .i64 7, .int .i64 a0, .string (⟨#[120]⟩ : ByteArray)] rfl (by (try simp only [List.map_toArray, List.map_cons, List.map_nil]); first | done | rfl | (simp only [List.length_drop, List.length_take]; rfl)) ?_; (with_reducible refine (Given.MtWith.calls 7 a0 (⟨#[120]⟩ : ByteArray) t101 t102 t103 _ A4.out).mono ?_); rintro e w10 ⟨rfl, hb⟩; refine ⟨_, rfl, ?_⟩; have n0_ := Aside0.mk (below_step (by repeat (first | (with_reducible first | exact HB.out | apply below_alloc | apply pw_below_drewN | apply below_drew1) | exact HB.out)) hb); clear HB; have HB := n0_; clear n0_; (try clear hb); (try clear hb2); (try clear hk); (try clear hi)) | ((with_reducible refine gate_callee (f := 10) rfl ?_); refine goesL_ (some 22) rfl rfl Tryd.func10 (by kernel_rfl) rfl #[.int .i64 7, .int .i64 63, .string (⟨#[120]⟩ : ByteArray)] rfl (by (try simp only [List.map_toArray, List.map_cons, List.map_nil]); first | done | rfl | (simp only [List.length_drop, List.length_take]; rfl)) ?_; (with_reducible refine (Given.MtWith.calls 7 63 (⟨#[120]⟩ : ByteArray) t104 t105 t106 _ A5.out).mono ?_); rintro e w11 ⟨rfl, hb⟩; refine ⟨_, rfl, ?_⟩; have n0_ := Aside0.mk (below_step (by repeat (first | (with_reducible first | exact HB.out | apply below_alloc | apply pw_below_drewN | apply below_drew1) | exact HB.out)) hb); clear HB; have HB := n0_; clear n0_; (try clear hb); (try clear hb2); (try clear hk); (try clear hi)))
        go_ret
        exact ⟨by first | rfl | (simp [errW_none, errW_some] <;> rfl) | (simp [*, errW_none, errW_some] <;> rfl), by repeat (first | (with_reducible first | exact HB.out | apply below_alloc | apply pw_below_drewN | apply below_drew1) | exact HB.out)⟩
    · rw [if_neg c6] at H
      have c6b0 : decide (0 ≤ a0) = false := decide_eq_false c6
      clear c6
      by_cases c12 : (t103 == false) = true
      · rw [if_pos c12] at H
        have c12b0 : (t103 == false) = true := c12
        (try (have c12b1 : decide (t103 = false) = true := by simpa using c12))
        (try (have c12b2 : (t103 == false) = true := by simpa using c12))
        clear c12
        obtain rfl := Option.some.inj H
        go_enter Tryd.func5, Tryd.ntmps5
        go_wp2_with (first | ((with_reducible refine gate_callee (f := 10) rfl ?_); refine goesL_ (some 16) rfl rfl Tryd.func10 (by kernel_rfl) rfl #[.int .i64 7, .int .i64 a0, .string (⟨#[120]⟩ : ByteArray)] rfl (by (try simp only [List.map_toArray, List.map_cons, List.map_nil]); first | done | rfl | (simp only [List.length_drop, List.length_take]; rfl)) ?_; (with_reducible refine (Given.MtWith.calls 7 a0 (⟨#[120]⟩ : ByteArray) t101 t102 t103 _ A4.out).mono ?_); rintro e w13 ⟨rfl, hb⟩; refine ⟨_, rfl, ?_⟩; have n0_ := Aside0.mk (below_step (by repeat (first | (with_reducible first | exact HB.out | apply below_alloc | apply pw_below_drewN | apply below_drew1) | exact HB.out)) hb); clear HB; have HB := n0_; clear n0_; (try clear hb); (try clear hb2); (try clear hk); (try clear hi)) | ((with_reducible refine gate_callee (f := 10) rfl ?_); refine goesL_ (some 22) rfl rfl Tryd.func10 (by kernel_rfl) rfl #[.int .i64 7, .int .i64 63, .string (⟨#[120]⟩ : ByteArray)] rfl (by (try simp only [List.map_toArray, List.map_cons, List.map_nil]); first | done | rfl | (simp only [List.length_drop, List.length_take]; rfl)) ?_; (with_reducible refine (Given.MtWith.calls 7 63 (⟨#[120]⟩ : ByteArray) t104 t105 t106 _ A5.out).mono ?_); rintro e w14 ⟨rfl, hb⟩; refine ⟨_, rfl, ?_⟩; have n0_ := Aside0.mk (below_step (by repeat (first | (with_reducible first | exact HB.out | apply below_alloc | apply pw_below_drewN | apply below_drew1) | exact HB.out)) hb); clear HB; have HB := n0_; clear n0_; (try clear hb); (try clear hb2); (try clear hk); (try clear hi)))
        go_ret
        exact ⟨by first | rfl | (simp [errW_none, errW_some] <;> rfl) | (simp [*, errW_none, errW_some] <;> rfl), by repeat (first | (with_reducible first | exact HB.out | apply below_alloc | apply pw_below_drewN | apply below_drew1) | exact HB.out)⟩
      · rw [if_neg c12] at H
        have c12b0 : (t103 == false) = false := by simpa using c12
        (try (have c12b1 : decide (t103 = false) = false := by simpa using c12))
        (try (have c12b2 : (t103 == false) = false := by simpa using c12))
        (try (have c12b3 : ¬ (t103 = false) := by simpa using c12))
        clear c12
        obtain rfl := Option.some.inj H
        go_enter Tryd.func5, Tryd.ntmps5
        go_wp2_with (first | ((with_reducible refine gate_callee (f := 10) rfl ?_); refine goesL_ (some 16) rfl rfl Tryd.func10 (by kernel_rfl) rfl #[.int .i64 7, .int .i64 a0, .string (⟨#[120]⟩ : ByteArray)] rfl (by (try simp only [List.map_toArray, List.map_cons, List.map_nil]); first | done | rfl | (simp only [List.length_drop, List.length_take]; rfl)) ?_; (with_reducible refine (Given.MtWith.calls 7 a0 (⟨#[120]⟩ : ByteArray) t101 t102 t103 _ A4.out).mono ?_); rintro e w15 ⟨rfl, hb⟩; refine ⟨_, rfl, ?_⟩; have n0_ := Aside0.mk (below_step (by repeat (first | (with_reducible first | exact HB.out | apply below_alloc | apply pw_below_drewN | apply below_drew1) | exact HB.out)) hb); clear HB; have HB := n0_; clear n0_; (try clear hb); (try clear hb2); (try clear hk); (try clear hi)) | ((with_reducible refine gate_callee (f := 10) rfl ?_); refine goesL_ (some 22) rfl rfl Tryd.func10 (by kernel_rfl) rfl #[.int .i64 7, .int .i64 63, .string (⟨#[120]⟩ : ByteArray)] rfl (by (try simp only [List.map_toArray, List.map_cons, List.map_nil]); first | done | rfl | (simp only [List.length_drop, List.length_take]; rfl)) ?_; (with_reducible refine (Given.MtWith.calls 7 63 (⟨#[120]⟩ : ByteArray) t104 t105 t106 _ A5.out).mono ?_); rintro e w16 ⟨rfl, hb⟩; refine ⟨_, rfl, ?_⟩; have n0_ := Aside0.mk (below_step (by repeat (first | (with_reducible first | exact HB.out | apply below_alloc | apply pw_below_drewN | apply below_drew1) | exact HB.out)) hb); clear HB; have HB := n0_; clear n0_; (try clear hb); (try clear hb2); (try clear hk); (try clear hi)))
        go_ret
        exact ⟨by first | rfl | (simp [errW_none, errW_some] <;> rfl) | (simp [*, errW_none, errW_some] <;> rfl), by repeat (first | (with_reducible first | exact HB.out | apply below_alloc | apply pw_below_drewN | apply below_drew1) | exact HB.out)⟩
  · replace c3 := Bool.eq_false_iff.mpr c3
    subst c3
    have H1 : ((Given.MtWith.f 6 a0 (⟨#[120]⟩ : ByteArray)).bind fun bt107 => ((Given.MtWith.f 6 63 (⟨#[120]⟩ : ByteArray)).bind fun bt110 => (if a0 ≥ 0 then (if (bt107.2.2 == (decide (a0 ≤ 63))) = true then (some bt110.2.2) else (some false)) else (if (bt107.2.2 == false) = true then (some bt110.2.2) else (some false))))) = some r := by rw [if_neg (show ¬ (false = true) by decide)] at H; exact H
    clear H
    have H := H1
    clear H1
    replace H := Option.bind_eq_some_iff.mp H
    obtain ⟨⟨t107, t108, t109⟩, A170, H⟩ := H
    replace H : ((Given.MtWith.f 6 63 (⟨#[120]⟩ : ByteArray)).bind fun bt110 => (if a0 ≥ 0 then (if (t109 == (decide (a0 ≤ 63))) = true then (some bt110.2.2) else (some false)) else (if (t109 == false) = true then (some bt110.2.2) else (some false)))) = some r := H
    have A17 := Aside0.mk A170
    clear A170
    replace H := Option.bind_eq_some_iff.mp H
    obtain ⟨⟨t110, t111, t112⟩, A180, H⟩ := H
    replace H : (if a0 ≥ 0 then (if (t109 == (decide (a0 ≤ 63))) = true then (some t112) else (some false)) else (if (t109 == false) = true then (some t112) else (some false))) = some r := H
    have A18 := Aside0.mk A180
    clear A180
    by_cases c19 : a0 ≥ 0
    · rw [if_pos c19] at H
      have c19b0 : decide (0 ≤ a0) = true := decide_eq_true c19
      clear c19
      by_cases c20 : (t109 == (decide (a0 ≤ 63))) = true
      · rw [if_pos c20] at H
        have c20b0 : (t109 == (decide (a0 ≤ 63))) = true := c20
        (try (have c20b1 : decide (t109 = (decide (a0 ≤ 63))) = true := by simpa using c20))
        (try (have c20b2 : (t109 == (decide (a0 ≤ 63))) = true := by simpa using c20))
        clear c20
        obtain rfl := Option.some.inj H
        go_enter Tryd.func5, Tryd.ntmps5
        go_wp2_with (first | ((with_reducible refine gate_callee (f := 10) rfl ?_); refine goesL_ (some 16) rfl rfl Tryd.func10 (by kernel_rfl) rfl #[.int .i64 6, .int .i64 a0, .string (⟨#[120]⟩ : ByteArray)] rfl (by (try simp only [List.map_toArray, List.map_cons, List.map_nil]); first | done | rfl | (simp only [List.length_drop, List.length_take]; rfl)) ?_; (with_reducible refine (Given.MtWith.calls 6 a0 (⟨#[120]⟩ : ByteArray) t107 t108 t109 _ A17.out).mono ?_); rintro e w21 ⟨rfl, hb⟩; refine ⟨_, rfl, ?_⟩; have n0_ := Aside0.mk (below_step (by repeat (first | (with_reducible first | exact HB.out | apply below_alloc | apply pw_below_drewN | apply below_drew1) | exact HB.out)) hb); clear HB; have HB := n0_; clear n0_; (try clear hb); (try clear hb2); (try clear hk); (try clear hi)) | ((with_reducible refine gate_callee (f := 10) rfl ?_); refine goesL_ (some 22) rfl rfl Tryd.func10 (by kernel_rfl) rfl #[.int .i64 6, .int .i64 63, .string (⟨#[120]⟩ : ByteArray)] rfl (by (try simp only [List.map_toArray, List.map_cons, List.map_nil]); first | done | rfl | (simp only [List.length_drop, List.length_take]; rfl)) ?_; (with_reducible refine (Given.MtWith.calls 6 63 (⟨#[120]⟩ : ByteArray) t110 t111 t112 _ A18.out).mono ?_); rintro e w22 ⟨rfl, hb⟩; refine ⟨_, rfl, ?_⟩; have n0_ := Aside0.mk (below_step (by repeat (first | (with_reducible first | exact HB.out | apply below_alloc | apply pw_below_drewN | apply below_drew1) | exact HB.out)) hb); clear HB; have HB := n0_; clear n0_; (try clear hb); (try clear hb2); (try clear hk); (try clear hi)))
        go_ret
        exact ⟨by first | rfl | (simp [errW_none, errW_some] <;> rfl) | (simp [*, errW_none, errW_some] <;> rfl), by repeat (first | (with_reducible first | exact HB.out | apply below_alloc | apply pw_below_drewN | apply below_drew1) | exact HB.out)⟩
      · rw [if_neg c20] at H
        have c20b0 : (t109 == (decide (a0 ≤ 63))) = false := by simpa using c20
        (try (have c20b1 : decide (t109 = (decide (a0 ≤ 63))) = false := by simpa using c20))
        (try (have c20b2 : (t109 == (decide (a0 ≤ 63))) = false := by simpa using c20))
        (try (have c20b3 : ¬ (t109 = (decide (a0 ≤ 63))) := by simpa using c20))
        clear c20
        obtain rfl := Option.some.inj H
        go_enter Tryd.func5, Tryd.ntmps5
        go_wp2_with (first | ((with_reducible refine gate_callee (f := 10) rfl ?_); refine goesL_ (some 16) rfl rfl Tryd.func10 (by kernel_rfl) rfl #[.int .i64 6, .int .i64 a0, .string (⟨#[120]⟩ : ByteArray)] rfl (by (try simp only [List.map_toArray, List.map_cons, List.map_nil]); first | done | rfl | (simp only [List.length_drop, List.length_take]; rfl)) ?_; (with_reducible refine (Given.MtWith.calls 6 a0 (⟨#[120]⟩ : ByteArray) t107 t108 t109 _ A17.out).mono ?_); rintro e w23 ⟨rfl, hb⟩; refine ⟨_, rfl, ?_⟩; have n0_ := Aside0.mk (below_step (by repeat (first | (with_reducible first | exact HB.out | apply below_alloc | apply pw_below_drewN | apply below_drew1) | exact HB.out)) hb); clear HB; have HB := n0_; clear n0_; (try clear hb); (try clear hb2); (try clear hk); (try clear hi)) | ((with_reducible refine gate_callee (f := 10) rfl ?_); refine goesL_ (some 22) rfl rfl Tryd.func10 (by kernel_rfl) rfl #[.int .i64 6, .int .i64 63, .string (⟨#[120]⟩ : ByteArray)] rfl (by (try simp only [List.map_toArray, List.map_cons, List.map_nil]); first | done | rfl | (simp only [List.length_drop, List.length_take]; rfl)) ?_; (with_reducible refine (Given.MtWith.calls 6 63 (⟨#[120]⟩ : ByteArray) t110 t111 t112 _ A18.out).mono ?_); rintro e w24 ⟨rfl, hb⟩; refine ⟨_, rfl, ?_⟩; have n0_ := Aside0.mk (below_step (by repeat (first | (with_reducible first | exact HB.out | apply below_alloc | apply pw_below_drewN | apply below_drew1) | exact HB.out)) hb); clear HB; have HB := n0_; clear n0_; (try clear hb); (try clear hb2); (try clear hk); (try clear hi)))
        go_ret
        exact ⟨by first | rfl | (simp [errW_none, errW_some] <;> rfl) | (simp [*, errW_none, errW_some] <;> rfl), by repeat (first | (with_reducible first | exact HB.out | apply below_alloc | apply pw_below_drewN | apply below_drew1) | exact HB.out)⟩
    · rw [if_neg c19] at H
      have c19b0 : decide (0 ≤ a0) = false := decide_eq_false c19
      clear c19
      by_cases c25 : (t109 == false) = true
      · rw [if_pos c25] at H
        have c25b0 : (t109 == false) = true := c25
        (try (have c25b1 : decide (t109 = false) = true := by simpa using c25))
        (try (have c25b2 : (t109 == false) = true := by simpa using c25))
        clear c25
        obtain rfl := Option.some.inj H
        go_enter Tryd.func5, Tryd.ntmps5
        go_wp2_with (first | ((with_reducible refine gate_callee (f := 10) rfl ?_); refine goesL_ (some 16) rfl rfl Tryd.func10 (by kernel_rfl) rfl #[.int .i64 6, .int .i64 a0, .string (⟨#[120]⟩ : ByteArray)] rfl (by (try simp only [List.map_toArray, List.map_cons, List.map_nil]); first | done | rfl | (simp only [List.length_drop, List.length_take]; rfl)) ?_; (with_reducible refine (Given.MtWith.calls 6 a0 (⟨#[120]⟩ : ByteArray) t107 t108 t109 _ A17.out).mono ?_); rintro e w26 ⟨rfl, hb⟩; refine ⟨_, rfl, ?_⟩; have n0_ := Aside0.mk (below_step (by repeat (first | (with_reducible first | exact HB.out | apply below_alloc | apply pw_below_drewN | apply below_drew1) | exact HB.out)) hb); clear HB; have HB := n0_; clear n0_; (try clear hb); (try clear hb2); (try clear hk); (try clear hi)) | ((with_reducible refine gate_callee (f := 10) rfl ?_); refine goesL_ (some 22) rfl rfl Tryd.func10 (by kernel_rfl) rfl #[.int .i64 6, .int .i64 63, .string (⟨#[120]⟩ : ByteArray)] rfl (by (try simp only [List.map_toArray, List.map_cons, List.map_nil]); first | done | rfl | (simp only [List.length_drop, List.length_take]; rfl)) ?_; (with_reducible refine (Given.MtWith.calls 6 63 (⟨#[120]⟩ : ByteArray) t110 t111 t112 _ A18.out).mono ?_); rintro e w27 ⟨rfl, hb⟩; refine ⟨_, rfl, ?_⟩; have n0_ := Aside0.mk (below_step (by repeat (first | (with_reducible first | exact HB.out | apply below_alloc | apply pw_below_drewN | apply below_drew1) | exact HB.out)) hb); clear HB; have HB := n0_; clear n0_; (try clear hb); (try clear hb2); (try clear hk); (try clear hi)))
        go_ret
        exact ⟨by first | rfl | (simp [errW_none, errW_some] <;> rfl) | (simp [*, errW_none, errW_some] <;> rfl), by repeat (first | (with_reducible first | exact HB.out | apply below_alloc | apply pw_below_drewN | apply below_drew1) | exact HB.out)⟩
      · rw [if_neg c25] at H
        have c25b0 : (t109 == false) = false := by simpa using c25
        (try (have c25b1 : decide (t109 = false) = false := by simpa using c25))
        (try (have c25b2 : (t109 == false) = false := by simpa using c25))
        (try (have c25b3 : ¬ (t109 = false) := by simpa using c25))
        clear c25
        obtain rfl := Option.some.inj H
        go_enter Tryd.func5, Tryd.ntmps5
        go_wp2_with (first | ((with_reducible refine gate_callee (f := 10) rfl ?_); refine goesL_ (some 16) rfl rfl Tryd.func10 (by kernel_rfl) rfl #[.int .i64 6, .int .i64 a0, .string (⟨#[120]⟩ : ByteArray)] rfl (by (try simp only [List.map_toArray, List.map_cons, List.map_nil]); first | done | rfl | (simp only [List.length_drop, List.length_take]; rfl)) ?_; (with_reducible refine (Given.MtWith.calls 6 a0 (⟨#[120]⟩ : ByteArray) t107 t108 t109 _ A17.out).mono ?_); rintro e w28 ⟨rfl, hb⟩; refine ⟨_, rfl, ?_⟩; have n0_ := Aside0.mk (below_step (by repeat (first | (with_reducible first | exact HB.out | apply below_alloc | apply pw_below_drewN | apply below_drew1) | exact HB.out)) hb); clear HB; have HB := n0_; clear n0_; (try clear hb); (try clear hb2); (try clear hk); (try clear hi)) | ((with_reducible refine gate_callee (f := 10) rfl ?_); refine goesL_ (some 22) rfl rfl Tryd.func10 (by kernel_rfl) rfl #[.int .i64 6, .int .i64 63, .string (⟨#[120]⟩ : ByteArray)] rfl (by (try simp only [List.map_toArray, List.map_cons, List.map_nil]); first | done | rfl | (simp only [List.length_drop, List.length_take]; rfl)) ?_; (with_reducible refine (Given.MtWith.calls 6 63 (⟨#[120]⟩ : ByteArray) t110 t111 t112 _ A18.out).mono ?_); rintro e w29 ⟨rfl, hb⟩; refine ⟨_, rfl, ?_⟩; have n0_ := Aside0.mk (below_step (by repeat (first | (with_reducible first | exact HB.out | apply below_alloc | apply pw_below_drewN | apply below_drew1) | exact HB.out)) hb); clear HB; have HB := n0_; clear n0_; (try clear hb); (try clear hb2); (try clear hk); (try clear hi)))
        go_ret
        exact ⟨by first | rfl | (simp [errW_none, errW_some] <;> rfl) | (simp [*, errW_none, errW_some] <;> rfl), by repeat (first | (with_reducible first | exact HB.out | apply below_alloc | apply pw_below_drewN | apply below_drew1) | exact HB.out)⟩

/-- THE ONE PURE STATEMENT of laws_FnMtWithRange: yours. -/
def laws_FnMtWithRange.Pure : Prop := ∀ (a0 : Int) (a1 : Bool), (Lit.int .i64 a0).wf = true → laws_FnMtWithRange.f a0 a1 = some true
theorem laws_FnMtWithRange.walk (P : laws_FnMtWithRange.Pure) (a0 : Int) (a1 : Bool) (w : World) (w0 : (Lit.int .i64 a0).wf = true) :
    Calls Tryd.prog 5 #[.int .i64 a0, .bool a1] w fun e w' => e = .returned (.bool true) ∧ Below w.heap.size w w' := by
  have h := P a0 a1 w0
  refine (laws_FnMtWithRange.calls a0 a1 true w h).mono ?_
  rintro e w' ⟨rfl, hd⟩
  exact ⟨rfl, hd⟩

end Go.Proofs.YtdooimdefmegaaaDoor.PMt

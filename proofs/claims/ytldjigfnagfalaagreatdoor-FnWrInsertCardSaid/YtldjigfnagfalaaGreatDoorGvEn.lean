/- (*encoder).encode of a number, at a place that wants no padding, over what Write does. -/
import Derived.Test.YtldjigfnagfalaaGreatDoorGvAl
import Derived.Test.YtldjigfnagfalaaGreatDoorGvZv
namespace Go.Proofs.YtldjigfnagfalaaGreatDoor.Given
open Go.RowKit Go.Proofs.YtldjigfnagfalaaGreatDoorW.PrintWords
set_option linter.unusedVariables false
theorem new_lt {w w1 : World} {o : Obj} (hb : Below (w.alloc o).heap.size (w.alloc o) w1) : w.heap.size < w1.heap.size := by
  have := hb.size
  simp at this
  omega
theorem Takes.grown {w W : World} {b : Nat} {bytes : List UInt8} {R : World → Prop} (h : Takes w b bytes R) (hb : Below w.heap.size w W) : Takes W b bytes R :=
  fun W' g c hB hg hcs => h W' g c (below_step hb hB) (Nat.le_trans hb.size hg) hcs

set_option maxHeartbeats 8000000 in
set_option maxRecDepth 100000 in
theorem en_110_le (e b v : Nat) (hv : v < 65536) (x : Int) (hx : IntKind.u16.wrap x = (v : Int)) (hx0 : -32768 ≤ x) (hx1 : x < 32768) (q dep : Int) (hd0 : 0 ≤ dep) (hd : dep ≤ 64) (hq0 : 0 ≤ q) (hq1 : q < 4611686018427387904) (hm : q.tmod 2 = 0) (R : World → Prop) (w : World)
    (c0 : w.cell? ⟨e, 0, none⟩ = some (.iface 71 (.pointer (some ⟨b, 0, none⟩)))) (c2 : w.cell? ⟨e, 2, none⟩ = some (.iface 97 (.agg #[]))) (c3 : w.cell? ⟨e, 3, none⟩ = some (.int .i64 q)) (HW : Takes w b (Lib.leBytes 2 v) R)
    (hR : ∀ w', R w' → w'.cell? ⟨e, 3, none⟩ = some (.int .i64 q) ∧ w'.frozen? ⟨e, 3, none⟩ = false) :
    Calls Tryz.prog 36 #[.pointer (some ⟨e, 0, none⟩), .agg #[.iface 64 (.int .i16 x), .string ⟨#[110]⟩], .int .i64 dep] w fun r w' => r = .returned (.tuple #[]) ∧ ∃ w1, R w1 ∧ w' = w1.setCell ⟨e, 3, none⟩ (.int .i64 (q + 2)) := by
  have he := block_lt_of_cell c0
  have hw : wrap64 (q + 2) = q + 2 := by unfold wrap64; omega
  have hwv : IntKind.i16.wrap x = x := by  unfold IntKind.wrap; simp [IntKind.signed, IntKind.bits]; omega
  have HHW := Aside0.mk HW
  have HHR := Aside0.mk hR
  clear HW hR
  go_enter Tryz.func36, Tryz.ntmps36
  go_wp2_with (first
    | (go_at_call 43; refine (zType _ _ _).mono ?_; rintro r w1 ⟨rfl, hb1⟩; obtain ⟨hc1, hf1⟩ := bcell hb1; have hz1 : w.heap.size < w1.heap.size := new_lt hb1; have B1 := below_step (w := w) (by repeat (first | assumption | exact Below.refl _ _ | apply below_alloc | apply below_drew)) hb1)
    | (go_at_call 43; refine (zType _ _ _).mono ?_; rintro r w7 ⟨rfl, hb7⟩; obtain ⟨hc7, hf7⟩ := bcell hb7; have hz7 : w.heap.size < w7.heap.size := Nat.lt_of_lt_of_le hz4 hb7.size; have B7 := below_step (w := w) (by repeat (first | assumption | exact Below.refl _ _ | apply below_alloc | apply below_drew)) hb7)
    | (go_at_call 42; refine (align_110 _).mono ?_; rintro r w2 ⟨rfl, rfl⟩)
    | (go_at_call 41; refine (align0 e q 2 hq0 hq1 (by decide) hm _ ((B1.cell (p := ⟨e, 3, none⟩) he).trans c3)).mono ?_; rintro r w3 ⟨rfl, rfl⟩)
    | (go_at_call 44; refine (zKind_110 _ _).mono ?_; rintro r w4 ⟨rfl, hb4⟩; obtain ⟨hc4, hf4⟩ := bcell hb4; have hz4 : w.heap.size < w4.heap.size := Nat.lt_of_lt_of_le hz1 hb4.size; have B4 := below_step (w := w) (by repeat (first | assumption | exact Below.refl _ _ | apply below_alloc | apply below_drew)) hb4)
    | (go_at_call 48; refine (zNum_110 x hx0 hx1 _).mono ?_; rintro r w5 ⟨rfl, hb5⟩; obtain ⟨hc5, hf5⟩ := bcell hb5; have hz5 : w.heap.size < w5.heap.size := (by first | exact Nat.lt_of_lt_of_le hz4 hb5.size | exact Nat.lt_of_lt_of_le hz7 hb5.size); have B5 := below_step (w := w) (by repeat (first | assumption | exact Below.refl _ _ | apply below_alloc | apply below_drew)) hb5)
    | (go_at_call 47; refine (bw_i16_le e b v hv x hx R _ ((B5.cell (p := ⟨e, 0, none⟩) he).trans c0) ((B5.cell (p := ⟨e, 2, none⟩) he).trans c2) (HHW.out.grown B5)).mono ?_; rintro r w6 ⟨rfl, hr6⟩; have HR6 := Aside0.mk hr6; obtain ⟨p6, f6⟩ := HHR.out w6 hr6; clear hr6))
  refine bodyPost_end (results_none (by rfl) _ _ _) rfl ⟨rfl, w6, HR6.out, rfl⟩

set_option maxHeartbeats 8000000 in
set_option maxRecDepth 100000 in
theorem en_110_be (e b v : Nat) (hv : v < 65536) (x : Int) (hx : IntKind.u16.wrap x = (v : Int)) (hx0 : -32768 ≤ x) (hx1 : x < 32768) (q dep : Int) (hd0 : 0 ≤ dep) (hd : dep ≤ 64) (hq0 : 0 ≤ q) (hq1 : q < 4611686018427387904) (hm : q.tmod 2 = 0) (R : World → Prop) (w : World)
    (c0 : w.cell? ⟨e, 0, none⟩ = some (.iface 71 (.pointer (some ⟨b, 0, none⟩)))) (c2 : w.cell? ⟨e, 2, none⟩ = some (.iface 96 (.agg #[]))) (c3 : w.cell? ⟨e, 3, none⟩ = some (.int .i64 q)) (HW : Takes w b (Lib.beBytes 2 v) R)
    (hR : ∀ w', R w' → w'.cell? ⟨e, 3, none⟩ = some (.int .i64 q) ∧ w'.frozen? ⟨e, 3, none⟩ = false) :
    Calls Tryz.prog 36 #[.pointer (some ⟨e, 0, none⟩), .agg #[.iface 64 (.int .i16 x), .string ⟨#[110]⟩], .int .i64 dep] w fun r w' => r = .returned (.tuple #[]) ∧ ∃ w1, R w1 ∧ w' = w1.setCell ⟨e, 3, none⟩ (.int .i64 (q + 2)) := by
  have he := block_lt_of_cell c0
  have hw : wrap64 (q + 2) = q + 2 := by unfold wrap64; omega
  have hwv : IntKind.i16.wrap x = x := by  unfold IntKind.wrap; simp [IntKind.signed, IntKind.bits]; omega
  have HHW := Aside0.mk HW
  have HHR := Aside0.mk hR
  clear HW hR
  go_enter Tryz.func36, Tryz.ntmps36
  go_wp2_with (first
    | (go_at_call 43; refine (zType _ _ _).mono ?_; rintro r w1 ⟨rfl, hb1⟩; obtain ⟨hc1, hf1⟩ := bcell hb1; have hz1 : w.heap.size < w1.heap.size := new_lt hb1; have B1 := below_step (w := w) (by repeat (first | assumption | exact Below.refl _ _ | apply below_alloc | apply below_drew)) hb1)
    | (go_at_call 43; refine (zType _ _ _).mono ?_; rintro r w7 ⟨rfl, hb7⟩; obtain ⟨hc7, hf7⟩ := bcell hb7; have hz7 : w.heap.size < w7.heap.size := Nat.lt_of_lt_of_le hz4 hb7.size; have B7 := below_step (w := w) (by repeat (first | assumption | exact Below.refl _ _ | apply below_alloc | apply below_drew)) hb7)
    | (go_at_call 42; refine (align_110 _).mono ?_; rintro r w2 ⟨rfl, rfl⟩)
    | (go_at_call 41; refine (align0 e q 2 hq0 hq1 (by decide) hm _ ((B1.cell (p := ⟨e, 3, none⟩) he).trans c3)).mono ?_; rintro r w3 ⟨rfl, rfl⟩)
    | (go_at_call 44; refine (zKind_110 _ _).mono ?_; rintro r w4 ⟨rfl, hb4⟩; obtain ⟨hc4, hf4⟩ := bcell hb4; have hz4 : w.heap.size < w4.heap.size := Nat.lt_of_lt_of_le hz1 hb4.size; have B4 := below_step (w := w) (by repeat (first | assumption | exact Below.refl _ _ | apply below_alloc | apply below_drew)) hb4)
    | (go_at_call 48; refine (zNum_110 x hx0 hx1 _).mono ?_; rintro r w5 ⟨rfl, hb5⟩; obtain ⟨hc5, hf5⟩ := bcell hb5; have hz5 : w.heap.size < w5.heap.size := (by first | exact Nat.lt_of_lt_of_le hz4 hb5.size | exact Nat.lt_of_lt_of_le hz7 hb5.size); have B5 := below_step (w := w) (by repeat (first | assumption | exact Below.refl _ _ | apply below_alloc | apply below_drew)) hb5)
    | (go_at_call 47; refine (bw_i16_be e b v hv x hx R _ ((B5.cell (p := ⟨e, 0, none⟩) he).trans c0) ((B5.cell (p := ⟨e, 2, none⟩) he).trans c2) (HHW.out.grown B5)).mono ?_; rintro r w6 ⟨rfl, hr6⟩; have HR6 := Aside0.mk hr6; obtain ⟨p6, f6⟩ := HHR.out w6 hr6; clear hr6))
  refine bodyPost_end (results_none (by rfl) _ _ _) rfl ⟨rfl, w6, HR6.out, rfl⟩

set_option maxHeartbeats 8000000 in
set_option maxRecDepth 100000 in
theorem en_113_le (e b v : Nat) (hv : v < 65536) (q dep : Int) (hd0 : 0 ≤ dep) (hd : dep ≤ 64) (hq0 : 0 ≤ q) (hq1 : q < 4611686018427387904) (hm : q.tmod 2 = 0) (R : World → Prop) (w : World)
    (c0 : w.cell? ⟨e, 0, none⟩ = some (.iface 71 (.pointer (some ⟨b, 0, none⟩)))) (c2 : w.cell? ⟨e, 2, none⟩ = some (.iface 97 (.agg #[]))) (c3 : w.cell? ⟨e, 3, none⟩ = some (.int .i64 q)) (HW : Takes w b (Lib.leBytes 2 v) R)
    (hR : ∀ w', R w' → w'.cell? ⟨e, 3, none⟩ = some (.int .i64 q) ∧ w'.frozen? ⟨e, 3, none⟩ = false) :
    Calls Tryz.prog 36 #[.pointer (some ⟨e, 0, none⟩), .agg #[.iface 131 (.int .u16 v), .string ⟨#[113]⟩], .int .i64 dep] w fun r w' => r = .returned (.tuple #[]) ∧ ∃ w1, R w1 ∧ w' = w1.setCell ⟨e, 3, none⟩ (.int .i64 (q + 2)) := by
  have he := block_lt_of_cell c0
  have hw : wrap64 (q + 2) = q + 2 := by unfold wrap64; omega
  have hwv : IntKind.u16.wrap (v : Int) = v := by unfold IntKind.wrap; simp [IntKind.signed, IntKind.bits]; omega
  have HHW := Aside0.mk HW
  have HHR := Aside0.mk hR
  clear HW hR
  go_enter Tryz.func36, Tryz.ntmps36
  go_wp2_with (first
    | (go_at_call 43; refine (zType _ _ _).mono ?_; rintro r w1 ⟨rfl, hb1⟩; obtain ⟨hc1, hf1⟩ := bcell hb1; have hz1 : w.heap.size < w1.heap.size := new_lt hb1; have B1 := below_step (w := w) (by repeat (first | assumption | exact Below.refl _ _ | apply below_alloc | apply below_drew)) hb1)
    | (go_at_call 43; refine (zType _ _ _).mono ?_; rintro r w7 ⟨rfl, hb7⟩; obtain ⟨hc7, hf7⟩ := bcell hb7; have hz7 : w.heap.size < w7.heap.size := Nat.lt_of_lt_of_le hz4 hb7.size; have B7 := below_step (w := w) (by repeat (first | assumption | exact Below.refl _ _ | apply below_alloc | apply below_drew)) hb7)
    | (go_at_call 42; refine (align_113 _).mono ?_; rintro r w2 ⟨rfl, rfl⟩)
    | (go_at_call 41; refine (align0 e q 2 hq0 hq1 (by decide) hm _ ((B1.cell (p := ⟨e, 3, none⟩) he).trans c3)).mono ?_; rintro r w3 ⟨rfl, rfl⟩)
    | (go_at_call 44; refine (zKind_113 _ _).mono ?_; rintro r w4 ⟨rfl, hb4⟩; obtain ⟨hc4, hf4⟩ := bcell hb4; have hz4 : w.heap.size < w4.heap.size := Nat.lt_of_lt_of_le hz1 hb4.size; have B4 := below_step (w := w) (by repeat (first | assumption | exact Below.refl _ _ | apply below_alloc | apply below_drew)) hb4)
    | (go_at_call 45; refine (zNum_113 v (by omega) (by omega) _).mono ?_; rintro r w5 ⟨rfl, hb5⟩; obtain ⟨hc5, hf5⟩ := bcell hb5; have hz5 : w.heap.size < w5.heap.size := (by first | exact Nat.lt_of_lt_of_le hz4 hb5.size | exact Nat.lt_of_lt_of_le hz7 hb5.size); have B5 := below_step (w := w) (by repeat (first | assumption | exact Below.refl _ _ | apply below_alloc | apply below_drew)) hb5)
    | (go_at_call 47; refine (bw_u16_le e b v hv R _ ((B5.cell (p := ⟨e, 0, none⟩) he).trans c0) ((B5.cell (p := ⟨e, 2, none⟩) he).trans c2) (HHW.out.grown B5)).mono ?_; rintro r w6 ⟨rfl, hr6⟩; have HR6 := Aside0.mk hr6; obtain ⟨p6, f6⟩ := HHR.out w6 hr6; clear hr6))
  refine bodyPost_end (results_none (by rfl) _ _ _) rfl ⟨rfl, w6, HR6.out, rfl⟩

set_option maxHeartbeats 8000000 in
set_option maxRecDepth 100000 in
theorem en_113_be (e b v : Nat) (hv : v < 65536) (q dep : Int) (hd0 : 0 ≤ dep) (hd : dep ≤ 64) (hq0 : 0 ≤ q) (hq1 : q < 4611686018427387904) (hm : q.tmod 2 = 0) (R : World → Prop) (w : World)
    (c0 : w.cell? ⟨e, 0, none⟩ = some (.iface 71 (.pointer (some ⟨b, 0, none⟩)))) (c2 : w.cell? ⟨e, 2, none⟩ = some (.iface 96 (.agg #[]))) (c3 : w.cell? ⟨e, 3, none⟩ = some (.int .i64 q)) (HW : Takes w b (Lib.beBytes 2 v) R)
    (hR : ∀ w', R w' → w'.cell? ⟨e, 3, none⟩ = some (.int .i64 q) ∧ w'.frozen? ⟨e, 3, none⟩ = false) :
    Calls Tryz.prog 36 #[.pointer (some ⟨e, 0, none⟩), .agg #[.iface 131 (.int .u16 v), .string ⟨#[113]⟩], .int .i64 dep] w fun r w' => r = .returned (.tuple #[]) ∧ ∃ w1, R w1 ∧ w' = w1.setCell ⟨e, 3, none⟩ (.int .i64 (q + 2)) := by
  have he := block_lt_of_cell c0
  have hw : wrap64 (q + 2) = q + 2 := by unfold wrap64; omega
  have hwv : IntKind.u16.wrap (v : Int) = v := by unfold IntKind.wrap; simp [IntKind.signed, IntKind.bits]; omega
  have HHW := Aside0.mk HW
  have HHR := Aside0.mk hR
  clear HW hR
  go_enter Tryz.func36, Tryz.ntmps36
  go_wp2_with (first
    | (go_at_call 43; refine (zType _ _ _).mono ?_; rintro r w1 ⟨rfl, hb1⟩; obtain ⟨hc1, hf1⟩ := bcell hb1; have hz1 : w.heap.size < w1.heap.size := new_lt hb1; have B1 := below_step (w := w) (by repeat (first | assumption | exact Below.refl _ _ | apply below_alloc | apply below_drew)) hb1)
    | (go_at_call 43; refine (zType _ _ _).mono ?_; rintro r w7 ⟨rfl, hb7⟩; obtain ⟨hc7, hf7⟩ := bcell hb7; have hz7 : w.heap.size < w7.heap.size := Nat.lt_of_lt_of_le hz4 hb7.size; have B7 := below_step (w := w) (by repeat (first | assumption | exact Below.refl _ _ | apply below_alloc | apply below_drew)) hb7)
    | (go_at_call 42; refine (align_113 _).mono ?_; rintro r w2 ⟨rfl, rfl⟩)
    | (go_at_call 41; refine (align0 e q 2 hq0 hq1 (by decide) hm _ ((B1.cell (p := ⟨e, 3, none⟩) he).trans c3)).mono ?_; rintro r w3 ⟨rfl, rfl⟩)
    | (go_at_call 44; refine (zKind_113 _ _).mono ?_; rintro r w4 ⟨rfl, hb4⟩; obtain ⟨hc4, hf4⟩ := bcell hb4; have hz4 : w.heap.size < w4.heap.size := Nat.lt_of_lt_of_le hz1 hb4.size; have B4 := below_step (w := w) (by repeat (first | assumption | exact Below.refl _ _ | apply below_alloc | apply below_drew)) hb4)
    | (go_at_call 45; refine (zNum_113 v (by omega) (by omega) _).mono ?_; rintro r w5 ⟨rfl, hb5⟩; obtain ⟨hc5, hf5⟩ := bcell hb5; have hz5 : w.heap.size < w5.heap.size := (by first | exact Nat.lt_of_lt_of_le hz4 hb5.size | exact Nat.lt_of_lt_of_le hz7 hb5.size); have B5 := below_step (w := w) (by repeat (first | assumption | exact Below.refl _ _ | apply below_alloc | apply below_drew)) hb5)
    | (go_at_call 47; refine (bw_u16_be e b v hv R _ ((B5.cell (p := ⟨e, 0, none⟩) he).trans c0) ((B5.cell (p := ⟨e, 2, none⟩) he).trans c2) (HHW.out.grown B5)).mono ?_; rintro r w6 ⟨rfl, hr6⟩; have HR6 := Aside0.mk hr6; obtain ⟨p6, f6⟩ := HHR.out w6 hr6; clear hr6))
  refine bodyPost_end (results_none (by rfl) _ _ _) rfl ⟨rfl, w6, HR6.out, rfl⟩

set_option maxHeartbeats 8000000 in
set_option maxRecDepth 100000 in
theorem en_105_le (e b v : Nat) (hv : v < 4294967296) (x : Int) (hx : IntKind.u32.wrap x = (v : Int)) (hx0 : -2147483648 ≤ x) (hx1 : x < 2147483648) (q dep : Int) (hd0 : 0 ≤ dep) (hd : dep ≤ 64) (hq0 : 0 ≤ q) (hq1 : q < 4611686018427387904) (hm : q.tmod 4 = 0) (R : World → Prop) (w : World)
    (c0 : w.cell? ⟨e, 0, none⟩ = some (.iface 71 (.pointer (some ⟨b, 0, none⟩)))) (c2 : w.cell? ⟨e, 2, none⟩ = some (.iface 97 (.agg #[]))) (c3 : w.cell? ⟨e, 3, none⟩ = some (.int .i64 q)) (HW : Takes w b (Lib.leBytes 4 v) R)
    (hR : ∀ w', R w' → w'.cell? ⟨e, 3, none⟩ = some (.int .i64 q) ∧ w'.frozen? ⟨e, 3, none⟩ = false) :
    Calls Tryz.prog 36 #[.pointer (some ⟨e, 0, none⟩), .agg #[.iface 21 (.int .i32 x), .string ⟨#[105]⟩], .int .i64 dep] w fun r w' => r = .returned (.tuple #[]) ∧ ∃ w1, R w1 ∧ w' = w1.setCell ⟨e, 3, none⟩ (.int .i64 (q + 4)) := by
  have he := block_lt_of_cell c0
  have hw : wrap64 (q + 4) = q + 4 := by unfold wrap64; omega
  have hwv : wrap32 x = x := by unfold wrap32; omega
  have hwv2 : IntKind.i32.wrap x = x := by  unfold IntKind.wrap; simp [IntKind.signed, IntKind.bits]; omega
  have HHW := Aside0.mk HW
  have HHR := Aside0.mk hR
  clear HW hR
  go_enter Tryz.func36, Tryz.ntmps36
  go_wp2_with (first
    | (go_at_call 43; refine (zType _ _ _).mono ?_; rintro r w1 ⟨rfl, hb1⟩; obtain ⟨hc1, hf1⟩ := bcell hb1; have hz1 : w.heap.size < w1.heap.size := new_lt hb1; have B1 := below_step (w := w) (by repeat (first | assumption | exact Below.refl _ _ | apply below_alloc | apply below_drew)) hb1)
    | (go_at_call 43; refine (zType _ _ _).mono ?_; rintro r w7 ⟨rfl, hb7⟩; obtain ⟨hc7, hf7⟩ := bcell hb7; have hz7 : w.heap.size < w7.heap.size := Nat.lt_of_lt_of_le hz4 hb7.size; have B7 := below_step (w := w) (by repeat (first | assumption | exact Below.refl _ _ | apply below_alloc | apply below_drew)) hb7)
    | (go_at_call 42; refine (align_105 _).mono ?_; rintro r w2 ⟨rfl, rfl⟩)
    | (go_at_call 41; refine (align0 e q 4 hq0 hq1 (by decide) hm _ ((B1.cell (p := ⟨e, 3, none⟩) he).trans c3)).mono ?_; rintro r w3 ⟨rfl, rfl⟩)
    | (go_at_call 44; refine (zKind_105 _ _).mono ?_; rintro r w4 ⟨rfl, hb4⟩; obtain ⟨hc4, hf4⟩ := bcell hb4; have hz4 : w.heap.size < w4.heap.size := Nat.lt_of_lt_of_le hz1 hb4.size; have B4 := below_step (w := w) (by repeat (first | assumption | exact Below.refl _ _ | apply below_alloc | apply below_drew)) hb4)
    | (go_at_call 48; refine (zNum_105 x hx0 hx1 _).mono ?_; rintro r w5 ⟨rfl, hb5⟩; obtain ⟨hc5, hf5⟩ := bcell hb5; have hz5 : w.heap.size < w5.heap.size := (by first | exact Nat.lt_of_lt_of_le hz4 hb5.size | exact Nat.lt_of_lt_of_le hz7 hb5.size); have B5 := below_step (w := w) (by repeat (first | assumption | exact Below.refl _ _ | apply below_alloc | apply below_drew)) hb5)
    | (go_at_call 47; refine (bw_i32_le e b v hv x hx R _ ((B5.cell (p := ⟨e, 0, none⟩) he).trans c0) ((B5.cell (p := ⟨e, 2, none⟩) he).trans c2) (HHW.out.grown B5)).mono ?_; rintro r w6 ⟨rfl, hr6⟩; have HR6 := Aside0.mk hr6; obtain ⟨p6, f6⟩ := HHR.out w6 hr6; clear hr6))
  refine bodyPost_end (results_none (by rfl) _ _ _) rfl ⟨rfl, w6, HR6.out, rfl⟩

set_option maxHeartbeats 8000000 in
set_option maxRecDepth 100000 in
theorem en_105_be (e b v : Nat) (hv : v < 4294967296) (x : Int) (hx : IntKind.u32.wrap x = (v : Int)) (hx0 : -2147483648 ≤ x) (hx1 : x < 2147483648) (q dep : Int) (hd0 : 0 ≤ dep) (hd : dep ≤ 64) (hq0 : 0 ≤ q) (hq1 : q < 4611686018427387904) (hm : q.tmod 4 = 0) (R : World → Prop) (w : World)
    (c0 : w.cell? ⟨e, 0, none⟩ = some (.iface 71 (.pointer (some ⟨b, 0, none⟩)))) (c2 : w.cell? ⟨e, 2, none⟩ = some (.iface 96 (.agg #[]))) (c3 : w.cell? ⟨e, 3, none⟩ = some (.int .i64 q)) (HW : Takes w b (Lib.beBytes 4 v) R)
    (hR : ∀ w', R w' → w'.cell? ⟨e, 3, none⟩ = some (.int .i64 q) ∧ w'.frozen? ⟨e, 3, none⟩ = false) :
    Calls Tryz.prog 36 #[.pointer (some ⟨e, 0, none⟩), .agg #[.iface 21 (.int .i32 x), .string ⟨#[105]⟩], .int .i64 dep] w fun r w' => r = .returned (.tuple #[]) ∧ ∃ w1, R w1 ∧ w' = w1.setCell ⟨e, 3, none⟩ (.int .i64 (q + 4)) := by
  have he := block_lt_of_cell c0
  have hw : wrap64 (q + 4) = q + 4 := by unfold wrap64; omega
  have hwv : wrap32 x = x := by unfold wrap32; omega
  have hwv2 : IntKind.i32.wrap x = x := by  unfold IntKind.wrap; simp [IntKind.signed, IntKind.bits]; omega
  have HHW := Aside0.mk HW
  have HHR := Aside0.mk hR
  clear HW hR
  go_enter Tryz.func36, Tryz.ntmps36
  go_wp2_with (first
    | (go_at_call 43; refine (zType _ _ _).mono ?_; rintro r w1 ⟨rfl, hb1⟩; obtain ⟨hc1, hf1⟩ := bcell hb1; have hz1 : w.heap.size < w1.heap.size := new_lt hb1; have B1 := below_step (w := w) (by repeat (first | assumption | exact Below.refl _ _ | apply below_alloc | apply below_drew)) hb1)
    | (go_at_call 43; refine (zType _ _ _).mono ?_; rintro r w7 ⟨rfl, hb7⟩; obtain ⟨hc7, hf7⟩ := bcell hb7; have hz7 : w.heap.size < w7.heap.size := Nat.lt_of_lt_of_le hz4 hb7.size; have B7 := below_step (w := w) (by repeat (first | assumption | exact Below.refl _ _ | apply below_alloc | apply below_drew)) hb7)
    | (go_at_call 42; refine (align_105 _).mono ?_; rintro r w2 ⟨rfl, rfl⟩)
    | (go_at_call 41; refine (align0 e q 4 hq0 hq1 (by decide) hm _ ((B1.cell (p := ⟨e, 3, none⟩) he).trans c3)).mono ?_; rintro r w3 ⟨rfl, rfl⟩)
    | (go_at_call 44; refine (zKind_105 _ _).mono ?_; rintro r w4 ⟨rfl, hb4⟩; obtain ⟨hc4, hf4⟩ := bcell hb4; have hz4 : w.heap.size < w4.heap.size := Nat.lt_of_lt_of_le hz1 hb4.size; have B4 := below_step (w := w) (by repeat (first | assumption | exact Below.refl _ _ | apply below_alloc | apply below_drew)) hb4)
    | (go_at_call 48; refine (zNum_105 x hx0 hx1 _).mono ?_; rintro r w5 ⟨rfl, hb5⟩; obtain ⟨hc5, hf5⟩ := bcell hb5; have hz5 : w.heap.size < w5.heap.size := (by first | exact Nat.lt_of_lt_of_le hz4 hb5.size | exact Nat.lt_of_lt_of_le hz7 hb5.size); have B5 := below_step (w := w) (by repeat (first | assumption | exact Below.refl _ _ | apply below_alloc | apply below_drew)) hb5)
    | (go_at_call 47; refine (bw_i32_be e b v hv x hx R _ ((B5.cell (p := ⟨e, 0, none⟩) he).trans c0) ((B5.cell (p := ⟨e, 2, none⟩) he).trans c2) (HHW.out.grown B5)).mono ?_; rintro r w6 ⟨rfl, hr6⟩; have HR6 := Aside0.mk hr6; obtain ⟨p6, f6⟩ := HHR.out w6 hr6; clear hr6))
  refine bodyPost_end (results_none (by rfl) _ _ _) rfl ⟨rfl, w6, HR6.out, rfl⟩

set_option maxHeartbeats 8000000 in
set_option maxRecDepth 100000 in
theorem en_117_le (e b v : Nat) (hv : v < 4294967296) (q dep : Int) (hd0 : 0 ≤ dep) (hd : dep ≤ 64) (hq0 : 0 ≤ q) (hq1 : q < 4611686018427387904) (hm : q.tmod 4 = 0) (R : World → Prop) (w : World)
    (c0 : w.cell? ⟨e, 0, none⟩ = some (.iface 71 (.pointer (some ⟨b, 0, none⟩)))) (c2 : w.cell? ⟨e, 2, none⟩ = some (.iface 97 (.agg #[]))) (c3 : w.cell? ⟨e, 3, none⟩ = some (.int .i64 q)) (HW : Takes w b (Lib.leBytes 4 v) R)
    (hR : ∀ w', R w' → w'.cell? ⟨e, 3, none⟩ = some (.int .i64 q) ∧ w'.frozen? ⟨e, 3, none⟩ = false) :
    Calls Tryz.prog 36 #[.pointer (some ⟨e, 0, none⟩), .agg #[.iface 36 (.int .u32 v), .string ⟨#[117]⟩], .int .i64 dep] w fun r w' => r = .returned (.tuple #[]) ∧ ∃ w1, R w1 ∧ w' = w1.setCell ⟨e, 3, none⟩ (.int .i64 (q + 4)) := by
  have he := block_lt_of_cell c0
  have hw : wrap64 (q + 4) = q + 4 := by unfold wrap64; omega
  have hwv : IntKind.u32.wrap (v : Int) = v := by unfold IntKind.wrap; simp [IntKind.signed, IntKind.bits]; omega
  have HHW := Aside0.mk HW
  have HHR := Aside0.mk hR
  clear HW hR
  go_enter Tryz.func36, Tryz.ntmps36
  go_wp2_with (first
    | (go_at_call 43; refine (zType _ _ _).mono ?_; rintro r w1 ⟨rfl, hb1⟩; obtain ⟨hc1, hf1⟩ := bcell hb1; have hz1 : w.heap.size < w1.heap.size := new_lt hb1; have B1 := below_step (w := w) (by repeat (first | assumption | exact Below.refl _ _ | apply below_alloc | apply below_drew)) hb1)
    | (go_at_call 43; refine (zType _ _ _).mono ?_; rintro r w7 ⟨rfl, hb7⟩; obtain ⟨hc7, hf7⟩ := bcell hb7; have hz7 : w.heap.size < w7.heap.size := Nat.lt_of_lt_of_le hz4 hb7.size; have B7 := below_step (w := w) (by repeat (first | assumption | exact Below.refl _ _ | apply below_alloc | apply below_drew)) hb7)
    | (go_at_call 42; refine (align_117 _).mono ?_; rintro r w2 ⟨rfl, rfl⟩)
    | (go_at_call 41; refine (align0 e q 4 hq0 hq1 (by decide) hm _ ((B1.cell (p := ⟨e, 3, none⟩) he).trans c3)).mono ?_; rintro r w3 ⟨rfl, rfl⟩)
    | (go_at_call 44; refine (zKind_117 _ _).mono ?_; rintro r w4 ⟨rfl, hb4⟩; obtain ⟨hc4, hf4⟩ := bcell hb4; have hz4 : w.heap.size < w4.heap.size := Nat.lt_of_lt_of_le hz1 hb4.size; have B4 := below_step (w := w) (by repeat (first | assumption | exact Below.refl _ _ | apply below_alloc | apply below_drew)) hb4)
    | (go_at_call 45; refine (zNum_117 v (by omega) (by omega) _).mono ?_; rintro r w5 ⟨rfl, hb5⟩; obtain ⟨hc5, hf5⟩ := bcell hb5; have hz5 : w.heap.size < w5.heap.size := (by first | exact Nat.lt_of_lt_of_le hz4 hb5.size | exact Nat.lt_of_lt_of_le hz7 hb5.size); have B5 := below_step (w := w) (by repeat (first | assumption | exact Below.refl _ _ | apply below_alloc | apply below_drew)) hb5)
    | (go_at_call 47; refine (bw_u32_le e b v hv R _ ((B5.cell (p := ⟨e, 0, none⟩) he).trans c0) ((B5.cell (p := ⟨e, 2, none⟩) he).trans c2) (HHW.out.grown B5)).mono ?_; rintro r w6 ⟨rfl, hr6⟩; have HR6 := Aside0.mk hr6; obtain ⟨p6, f6⟩ := HHR.out w6 hr6; clear hr6))
  refine bodyPost_end (results_none (by rfl) _ _ _) rfl ⟨rfl, w6, HR6.out, rfl⟩

set_option maxHeartbeats 8000000 in
set_option maxRecDepth 100000 in
theorem en_117_be (e b v : Nat) (hv : v < 4294967296) (q dep : Int) (hd0 : 0 ≤ dep) (hd : dep ≤ 64) (hq0 : 0 ≤ q) (hq1 : q < 4611686018427387904) (hm : q.tmod 4 = 0) (R : World → Prop) (w : World)
    (c0 : w.cell? ⟨e, 0, none⟩ = some (.iface 71 (.pointer (some ⟨b, 0, none⟩)))) (c2 : w.cell? ⟨e, 2, none⟩ = some (.iface 96 (.agg #[]))) (c3 : w.cell? ⟨e, 3, none⟩ = some (.int .i64 q)) (HW : Takes w b (Lib.beBytes 4 v) R)
    (hR : ∀ w', R w' → w'.cell? ⟨e, 3, none⟩ = some (.int .i64 q) ∧ w'.frozen? ⟨e, 3, none⟩ = false) :
    Calls Tryz.prog 36 #[.pointer (some ⟨e, 0, none⟩), .agg #[.iface 36 (.int .u32 v), .string ⟨#[117]⟩], .int .i64 dep] w fun r w' => r = .returned (.tuple #[]) ∧ ∃ w1, R w1 ∧ w' = w1.setCell ⟨e, 3, none⟩ (.int .i64 (q + 4)) := by
  have he := block_lt_of_cell c0
  have hw : wrap64 (q + 4) = q + 4 := by unfold wrap64; omega
  have hwv : IntKind.u32.wrap (v : Int) = v := by unfold IntKind.wrap; simp [IntKind.signed, IntKind.bits]; omega
  have HHW := Aside0.mk HW
  have HHR := Aside0.mk hR
  clear HW hR
  go_enter Tryz.func36, Tryz.ntmps36
  go_wp2_with (first
    | (go_at_call 43; refine (zType _ _ _).mono ?_; rintro r w1 ⟨rfl, hb1⟩; obtain ⟨hc1, hf1⟩ := bcell hb1; have hz1 : w.heap.size < w1.heap.size := new_lt hb1; have B1 := below_step (w := w) (by repeat (first | assumption | exact Below.refl _ _ | apply below_alloc | apply below_drew)) hb1)
    | (go_at_call 43; refine (zType _ _ _).mono ?_; rintro r w7 ⟨rfl, hb7⟩; obtain ⟨hc7, hf7⟩ := bcell hb7; have hz7 : w.heap.size < w7.heap.size := Nat.lt_of_lt_of_le hz4 hb7.size; have B7 := below_step (w := w) (by repeat (first | assumption | exact Below.refl _ _ | apply below_alloc | apply below_drew)) hb7)
    | (go_at_call 42; refine (align_117 _).mono ?_; rintro r w2 ⟨rfl, rfl⟩)
    | (go_at_call 41; refine (align0 e q 4 hq0 hq1 (by decide) hm _ ((B1.cell (p := ⟨e, 3, none⟩) he).trans c3)).mono ?_; rintro r w3 ⟨rfl, rfl⟩)
    | (go_at_call 44; refine (zKind_117 _ _).mono ?_; rintro r w4 ⟨rfl, hb4⟩; obtain ⟨hc4, hf4⟩ := bcell hb4; have hz4 : w.heap.size < w4.heap.size := Nat.lt_of_lt_of_le hz1 hb4.size; have B4 := below_step (w := w) (by repeat (first | assumption | exact Below.refl _ _ | apply below_alloc | apply below_drew)) hb4)
    | (go_at_call 45; refine (zNum_117 v (by omega) (by omega) _).mono ?_; rintro r w5 ⟨rfl, hb5⟩; obtain ⟨hc5, hf5⟩ := bcell hb5; have hz5 : w.heap.size < w5.heap.size := (by first | exact Nat.lt_of_lt_of_le hz4 hb5.size | exact Nat.lt_of_lt_of_le hz7 hb5.size); have B5 := below_step (w := w) (by repeat (first | assumption | exact Below.refl _ _ | apply below_alloc | apply below_drew)) hb5)
    | (go_at_call 47; refine (bw_u32_be e b v hv R _ ((B5.cell (p := ⟨e, 0, none⟩) he).trans c0) ((B5.cell (p := ⟨e, 2, none⟩) he).trans c2) (HHW.out.grown B5)).mono ?_; rintro r w6 ⟨rfl, hr6⟩; have HR6 := Aside0.mk hr6; obtain ⟨p6, f6⟩ := HHR.out w6 hr6; clear hr6))
  refine bodyPost_end (results_none (by rfl) _ _ _) rfl ⟨rfl, w6, HR6.out, rfl⟩

set_option maxHeartbeats 8000000 in
set_option maxRecDepth 100000 in
theorem en_120_le (e b v : Nat) (hv : v < 18446744073709551616) (x : Int) (hx : IntKind.u64.wrap x = (v : Int)) (hx0 : -9223372036854775808 ≤ x) (hx1 : x < 9223372036854775808) (q dep : Int) (hd0 : 0 ≤ dep) (hd : dep ≤ 64) (hq0 : 0 ≤ q) (hq1 : q < 4611686018427387904) (hm : q.tmod 8 = 0) (R : World → Prop) (w : World)
    (c0 : w.cell? ⟨e, 0, none⟩ = some (.iface 71 (.pointer (some ⟨b, 0, none⟩)))) (c2 : w.cell? ⟨e, 2, none⟩ = some (.iface 97 (.agg #[]))) (c3 : w.cell? ⟨e, 3, none⟩ = some (.int .i64 q)) (HW : Takes w b (Lib.leBytes 8 v) R)
    (hR : ∀ w', R w' → w'.cell? ⟨e, 3, none⟩ = some (.int .i64 q) ∧ w'.frozen? ⟨e, 3, none⟩ = false) :
    Calls Tryz.prog 36 #[.pointer (some ⟨e, 0, none⟩), .agg #[.iface 2 (.int .i64 x), .string ⟨#[120]⟩], .int .i64 dep] w fun r w' => r = .returned (.tuple #[]) ∧ ∃ w1, R w1 ∧ w' = w1.setCell ⟨e, 3, none⟩ (.int .i64 (q + 8)) := by
  have he := block_lt_of_cell c0
  have hw : wrap64 (q + 8) = q + 8 := by unfold wrap64; omega
  have HHW := Aside0.mk HW
  have HHR := Aside0.mk hR
  clear HW hR
  go_enter Tryz.func36, Tryz.ntmps36
  go_wp2_with (first
    | (go_at_call 43; refine (zType _ _ _).mono ?_; rintro r w1 ⟨rfl, hb1⟩; obtain ⟨hc1, hf1⟩ := bcell hb1; have hz1 : w.heap.size < w1.heap.size := new_lt hb1; have B1 := below_step (w := w) (by repeat (first | assumption | exact Below.refl _ _ | apply below_alloc | apply below_drew)) hb1)
    | (go_at_call 43; refine (zType _ _ _).mono ?_; rintro r w7 ⟨rfl, hb7⟩; obtain ⟨hc7, hf7⟩ := bcell hb7; have hz7 : w.heap.size < w7.heap.size := Nat.lt_of_lt_of_le hz4 hb7.size; have B7 := below_step (w := w) (by repeat (first | assumption | exact Below.refl _ _ | apply below_alloc | apply below_drew)) hb7)
    | (go_at_call 42; refine (align_120 _).mono ?_; rintro r w2 ⟨rfl, rfl⟩)
    | (go_at_call 41; refine (align0 e q 8 hq0 hq1 (by decide) hm _ ((B1.cell (p := ⟨e, 3, none⟩) he).trans c3)).mono ?_; rintro r w3 ⟨rfl, rfl⟩)
    | (go_at_call 44; refine (zKind_120 _ _).mono ?_; rintro r w4 ⟨rfl, hb4⟩; obtain ⟨hc4, hf4⟩ := bcell hb4; have hz4 : w.heap.size < w4.heap.size := Nat.lt_of_lt_of_le hz1 hb4.size; have B4 := below_step (w := w) (by repeat (first | assumption | exact Below.refl _ _ | apply below_alloc | apply below_drew)) hb4)
    | (go_at_call 48; refine (zNum_120 x hx0 hx1 _).mono ?_; rintro r w5 ⟨rfl, hb5⟩; obtain ⟨hc5, hf5⟩ := bcell hb5; have hz5 : w.heap.size < w5.heap.size := (by first | exact Nat.lt_of_lt_of_le hz4 hb5.size | exact Nat.lt_of_lt_of_le hz7 hb5.size); have B5 := below_step (w := w) (by repeat (first | assumption | exact Below.refl _ _ | apply below_alloc | apply below_drew)) hb5)
    | (go_at_call 47; refine (bw_i64_le e b v hv x hx R _ ((B5.cell (p := ⟨e, 0, none⟩) he).trans c0) ((B5.cell (p := ⟨e, 2, none⟩) he).trans c2) (HHW.out.grown B5)).mono ?_; rintro r w6 ⟨rfl, hr6⟩; have HR6 := Aside0.mk hr6; obtain ⟨p6, f6⟩ := HHR.out w6 hr6; clear hr6))
  refine bodyPost_end (results_none (by rfl) _ _ _) rfl ⟨rfl, w6, HR6.out, rfl⟩

set_option maxHeartbeats 8000000 in
set_option maxRecDepth 100000 in
theorem en_120_be (e b v : Nat) (hv : v < 18446744073709551616) (x : Int) (hx : IntKind.u64.wrap x = (v : Int)) (hx0 : -9223372036854775808 ≤ x) (hx1 : x < 9223372036854775808) (q dep : Int) (hd0 : 0 ≤ dep) (hd : dep ≤ 64) (hq0 : 0 ≤ q) (hq1 : q < 4611686018427387904) (hm : q.tmod 8 = 0) (R : World → Prop) (w : World)
    (c0 : w.cell? ⟨e, 0, none⟩ = some (.iface 71 (.pointer (some ⟨b, 0, none⟩)))) (c2 : w.cell? ⟨e, 2, none⟩ = some (.iface 96 (.agg #[]))) (c3 : w.cell? ⟨e, 3, none⟩ = some (.int .i64 q)) (HW : Takes w b (Lib.beBytes 8 v) R)
    (hR : ∀ w', R w' → w'.cell? ⟨e, 3, none⟩ = some (.int .i64 q) ∧ w'.frozen? ⟨e, 3, none⟩ = false) :
    Calls Tryz.prog 36 #[.pointer (some ⟨e, 0, none⟩), .agg #[.iface 2 (.int .i64 x), .string ⟨#[120]⟩], .int .i64 dep] w fun r w' => r = .returned (.tuple #[]) ∧ ∃ w1, R w1 ∧ w' = w1.setCell ⟨e, 3, none⟩ (.int .i64 (q + 8)) := by
  have he := block_lt_of_cell c0
  have hw : wrap64 (q + 8) = q + 8 := by unfold wrap64; omega
  have HHW := Aside0.mk HW
  have HHR := Aside0.mk hR
  clear HW hR
  go_enter Tryz.func36, Tryz.ntmps36
  go_wp2_with (first
    | (go_at_call 43; refine (zType _ _ _).mono ?_; rintro r w1 ⟨rfl, hb1⟩; obtain ⟨hc1, hf1⟩ := bcell hb1; have hz1 : w.heap.size < w1.heap.size := new_lt hb1; have B1 := below_step (w := w) (by repeat (first | assumption | exact Below.refl _ _ | apply below_alloc | apply below_drew)) hb1)
    | (go_at_call 43; refine (zType _ _ _).mono ?_; rintro r w7 ⟨rfl, hb7⟩; obtain ⟨hc7, hf7⟩ := bcell hb7; have hz7 : w.heap.size < w7.heap.size := Nat.lt_of_lt_of_le hz4 hb7.size; have B7 := below_step (w := w) (by repeat (first | assumption | exact Below.refl _ _ | apply below_alloc | apply below_drew)) hb7)
    | (go_at_call 42; refine (align_120 _).mono ?_; rintro r w2 ⟨rfl, rfl⟩)
    | (go_at_call 41; refine (align0 e q 8 hq0 hq1 (by decide) hm _ ((B1.cell (p := ⟨e, 3, none⟩) he).trans c3)).mono ?_; rintro r w3 ⟨rfl, rfl⟩)
    | (go_at_call 44; refine (zKind_120 _ _).mono ?_; rintro r w4 ⟨rfl, hb4⟩; obtain ⟨hc4, hf4⟩ := bcell hb4; have hz4 : w.heap.size < w4.heap.size := Nat.lt_of_lt_of_le hz1 hb4.size; have B4 := below_step (w := w) (by repeat (first | assumption | exact Below.refl _ _ | apply below_alloc | apply below_drew)) hb4)
    | (go_at_call 48; refine (zNum_120 x hx0 hx1 _).mono ?_; rintro r w5 ⟨rfl, hb5⟩; obtain ⟨hc5, hf5⟩ := bcell hb5; have hz5 : w.heap.size < w5.heap.size := (by first | exact Nat.lt_of_lt_of_le hz4 hb5.size | exact Nat.lt_of_lt_of_le hz7 hb5.size); have B5 := below_step (w := w) (by repeat (first | assumption | exact Below.refl _ _ | apply below_alloc | apply below_drew)) hb5)
    | (go_at_call 47; refine (bw_i64_be e b v hv x hx R _ ((B5.cell (p := ⟨e, 0, none⟩) he).trans c0) ((B5.cell (p := ⟨e, 2, none⟩) he).trans c2) (HHW.out.grown B5)).mono ?_; rintro r w6 ⟨rfl, hr6⟩; have HR6 := Aside0.mk hr6; obtain ⟨p6, f6⟩ := HHR.out w6 hr6; clear hr6))
  refine bodyPost_end (results_none (by rfl) _ _ _) rfl ⟨rfl, w6, HR6.out, rfl⟩

set_option maxHeartbeats 8000000 in
set_option maxRecDepth 100000 in
theorem en_116_le (e b v : Nat) (hv : v < 18446744073709551616) (q dep : Int) (hd0 : 0 ≤ dep) (hd : dep ≤ 64) (hq0 : 0 ≤ q) (hq1 : q < 4611686018427387904) (hm : q.tmod 8 = 0) (R : World → Prop) (w : World)
    (c0 : w.cell? ⟨e, 0, none⟩ = some (.iface 71 (.pointer (some ⟨b, 0, none⟩)))) (c2 : w.cell? ⟨e, 2, none⟩ = some (.iface 97 (.agg #[]))) (c3 : w.cell? ⟨e, 3, none⟩ = some (.int .i64 q)) (HW : Takes w b (Lib.leBytes 8 v) R)
    (hR : ∀ w', R w' → w'.cell? ⟨e, 3, none⟩ = some (.int .i64 q) ∧ w'.frozen? ⟨e, 3, none⟩ = false) :
    Calls Tryz.prog 36 #[.pointer (some ⟨e, 0, none⟩), .agg #[.iface 23 (.int .u64 v), .string ⟨#[116]⟩], .int .i64 dep] w fun r w' => r = .returned (.tuple #[]) ∧ ∃ w1, R w1 ∧ w' = w1.setCell ⟨e, 3, none⟩ (.int .i64 (q + 8)) := by
  have he := block_lt_of_cell c0
  have hw : wrap64 (q + 8) = q + 8 := by unfold wrap64; omega
  have HHW := Aside0.mk HW
  have HHR := Aside0.mk hR
  clear HW hR
  go_enter Tryz.func36, Tryz.ntmps36
  go_wp2_with (first
    | (go_at_call 43; refine (zType _ _ _).mono ?_; rintro r w1 ⟨rfl, hb1⟩; obtain ⟨hc1, hf1⟩ := bcell hb1; have hz1 : w.heap.size < w1.heap.size := new_lt hb1; have B1 := below_step (w := w) (by repeat (first | assumption | exact Below.refl _ _ | apply below_alloc | apply below_drew)) hb1)
    | (go_at_call 43; refine (zType _ _ _).mono ?_; rintro r w7 ⟨rfl, hb7⟩; obtain ⟨hc7, hf7⟩ := bcell hb7; have hz7 : w.heap.size < w7.heap.size := Nat.lt_of_lt_of_le hz4 hb7.size; have B7 := below_step (w := w) (by repeat (first | assumption | exact Below.refl _ _ | apply below_alloc | apply below_drew)) hb7)
    | (go_at_call 42; refine (align_116 _).mono ?_; rintro r w2 ⟨rfl, rfl⟩)
    | (go_at_call 41; refine (align0 e q 8 hq0 hq1 (by decide) hm _ ((B1.cell (p := ⟨e, 3, none⟩) he).trans c3)).mono ?_; rintro r w3 ⟨rfl, rfl⟩)
    | (go_at_call 44; refine (zKind_116 _ _).mono ?_; rintro r w4 ⟨rfl, hb4⟩; obtain ⟨hc4, hf4⟩ := bcell hb4; have hz4 : w.heap.size < w4.heap.size := Nat.lt_of_lt_of_le hz1 hb4.size; have B4 := below_step (w := w) (by repeat (first | assumption | exact Below.refl _ _ | apply below_alloc | apply below_drew)) hb4)
    | (go_at_call 45; refine (zNum_116 v (by omega) (by omega) _).mono ?_; rintro r w5 ⟨rfl, hb5⟩; obtain ⟨hc5, hf5⟩ := bcell hb5; have hz5 : w.heap.size < w5.heap.size := (by first | exact Nat.lt_of_lt_of_le hz4 hb5.size | exact Nat.lt_of_lt_of_le hz7 hb5.size); have B5 := below_step (w := w) (by repeat (first | assumption | exact Below.refl _ _ | apply below_alloc | apply below_drew)) hb5)
    | (go_at_call 47; refine (bw_u64_le e b v hv R _ ((B5.cell (p := ⟨e, 0, none⟩) he).trans c0) ((B5.cell (p := ⟨e, 2, none⟩) he).trans c2) (HHW.out.grown B5)).mono ?_; rintro r w6 ⟨rfl, hr6⟩; have HR6 := Aside0.mk hr6; obtain ⟨p6, f6⟩ := HHR.out w6 hr6; clear hr6))
  refine bodyPost_end (results_none (by rfl) _ _ _) rfl ⟨rfl, w6, HR6.out, rfl⟩

set_option maxHeartbeats 8000000 in
set_option maxRecDepth 100000 in
theorem en_116_be (e b v : Nat) (hv : v < 18446744073709551616) (q dep : Int) (hd0 : 0 ≤ dep) (hd : dep ≤ 64) (hq0 : 0 ≤ q) (hq1 : q < 4611686018427387904) (hm : q.tmod 8 = 0) (R : World → Prop) (w : World)
    (c0 : w.cell? ⟨e, 0, none⟩ = some (.iface 71 (.pointer (some ⟨b, 0, none⟩)))) (c2 : w.cell? ⟨e, 2, none⟩ = some (.iface 96 (.agg #[]))) (c3 : w.cell? ⟨e, 3, none⟩ = some (.int .i64 q)) (HW : Takes w b (Lib.beBytes 8 v) R)
    (hR : ∀ w', R w' → w'.cell? ⟨e, 3, none⟩ = some (.int .i64 q) ∧ w'.frozen? ⟨e, 3, none⟩ = false) :
    Calls Tryz.prog 36 #[.pointer (some ⟨e, 0, none⟩), .agg #[.iface 23 (.int .u64 v), .string ⟨#[116]⟩], .int .i64 dep] w fun r w' => r = .returned (.tuple #[]) ∧ ∃ w1, R w1 ∧ w' = w1.setCell ⟨e, 3, none⟩ (.int .i64 (q + 8)) := by
  have he := block_lt_of_cell c0
  have hw : wrap64 (q + 8) = q + 8 := by unfold wrap64; omega
  have HHW := Aside0.mk HW
  have HHR := Aside0.mk hR
  clear HW hR
  go_enter Tryz.func36, Tryz.ntmps36
  go_wp2_with (first
    | (go_at_call 43; refine (zType _ _ _).mono ?_; rintro r w1 ⟨rfl, hb1⟩; obtain ⟨hc1, hf1⟩ := bcell hb1; have hz1 : w.heap.size < w1.heap.size := new_lt hb1; have B1 := below_step (w := w) (by repeat (first | assumption | exact Below.refl _ _ | apply below_alloc | apply below_drew)) hb1)
    | (go_at_call 43; refine (zType _ _ _).mono ?_; rintro r w7 ⟨rfl, hb7⟩; obtain ⟨hc7, hf7⟩ := bcell hb7; have hz7 : w.heap.size < w7.heap.size := Nat.lt_of_lt_of_le hz4 hb7.size; have B7 := below_step (w := w) (by repeat (first | assumption | exact Below.refl _ _ | apply below_alloc | apply below_drew)) hb7)
    | (go_at_call 42; refine (align_116 _).mono ?_; rintro r w2 ⟨rfl, rfl⟩)
    | (go_at_call 41; refine (align0 e q 8 hq0 hq1 (by decide) hm _ ((B1.cell (p := ⟨e, 3, none⟩) he).trans c3)).mono ?_; rintro r w3 ⟨rfl, rfl⟩)
    | (go_at_call 44; refine (zKind_116 _ _).mono ?_; rintro r w4 ⟨rfl, hb4⟩; obtain ⟨hc4, hf4⟩ := bcell hb4; have hz4 : w.heap.size < w4.heap.size := Nat.lt_of_lt_of_le hz1 hb4.size; have B4 := below_step (w := w) (by repeat (first | assumption | exact Below.refl _ _ | apply below_alloc | apply below_drew)) hb4)
    | (go_at_call 45; refine (zNum_116 v (by omega) (by omega) _).mono ?_; rintro r w5 ⟨rfl, hb5⟩; obtain ⟨hc5, hf5⟩ := bcell hb5; have hz5 : w.heap.size < w5.heap.size := (by first | exact Nat.lt_of_lt_of_le hz4 hb5.size | exact Nat.lt_of_lt_of_le hz7 hb5.size); have B5 := below_step (w := w) (by repeat (first | assumption | exact Below.refl _ _ | apply below_alloc | apply below_drew)) hb5)
    | (go_at_call 47; refine (bw_u64_be e b v hv R _ ((B5.cell (p := ⟨e, 0, none⟩) he).trans c0) ((B5.cell (p := ⟨e, 2, none⟩) he).trans c2) (HHW.out.grown B5)).mono ?_; rintro r w6 ⟨rfl, hr6⟩; have HR6 := Aside0.mk hr6; obtain ⟨p6, f6⟩ := HHR.out w6 hr6; clear hr6))
  refine bodyPost_end (results_none (by rfl) _ _ _) rfl ⟨rfl, w6, HR6.out, rfl⟩

set_option maxHeartbeats 8000000 in
set_option maxRecDepth 100000 in
theorem en_100_le (e b v : Nat) (hv : v < 18446744073709551616) (q dep : Int) (hd0 : 0 ≤ dep) (hd : dep ≤ 64) (hq0 : 0 ≤ q) (hq1 : q < 4611686018427387904) (hm : q.tmod 8 = 0) (R : World → Prop) (w : World)
    (c0 : w.cell? ⟨e, 0, none⟩ = some (.iface 71 (.pointer (some ⟨b, 0, none⟩)))) (c2 : w.cell? ⟨e, 2, none⟩ = some (.iface 97 (.agg #[]))) (c3 : w.cell? ⟨e, 3, none⟩ = some (.int .i64 q)) (HW : Takes w b (Lib.leBytes 8 v) R)
    (hR : ∀ w', R w' → w'.cell? ⟨e, 3, none⟩ = some (.int .i64 q) ∧ w'.frozen? ⟨e, 3, none⟩ = false) :
    Calls Tryz.prog 36 #[.pointer (some ⟨e, 0, none⟩), .agg #[.iface 132 (.float .f64 v), .string ⟨#[100]⟩], .int .i64 dep] w fun r w' => r = .returned (.tuple #[]) ∧ ∃ w1, R w1 ∧ w' = w1.setCell ⟨e, 3, none⟩ (.int .i64 (q + 8)) := by
  have he := block_lt_of_cell c0
  have hw : wrap64 (q + 8) = q + 8 := by unfold wrap64; omega
  have HHW := Aside0.mk HW
  have HHR := Aside0.mk hR
  clear HW hR
  go_enter Tryz.func36, Tryz.ntmps36
  go_wp2_with (first
    | (go_at_call 43; refine (zType _ _ _).mono ?_; rintro r w1 ⟨rfl, hb1⟩; obtain ⟨hc1, hf1⟩ := bcell hb1; have hz1 : w.heap.size < w1.heap.size := new_lt hb1; have B1 := below_step (w := w) (by repeat (first | assumption | exact Below.refl _ _ | apply below_alloc | apply below_drew)) hb1)
    | (go_at_call 43; refine (zType _ _ _).mono ?_; rintro r w7 ⟨rfl, hb7⟩; obtain ⟨hc7, hf7⟩ := bcell hb7; have hz7 : w.heap.size < w7.heap.size := Nat.lt_of_lt_of_le hz4 hb7.size; have B7 := below_step (w := w) (by repeat (first | assumption | exact Below.refl _ _ | apply below_alloc | apply below_drew)) hb7)
    | (go_at_call 42; refine (align_100 _).mono ?_; rintro r w2 ⟨rfl, rfl⟩)
    | (go_at_call 41; refine (align0 e q 8 hq0 hq1 (by decide) hm _ ((B1.cell (p := ⟨e, 3, none⟩) he).trans c3)).mono ?_; rintro r w3 ⟨rfl, rfl⟩)
    | (go_at_call 44; refine (zKind_100 _ _).mono ?_; rintro r w4 ⟨rfl, hb4⟩; obtain ⟨hc4, hf4⟩ := bcell hb4; have hz4 : w.heap.size < w4.heap.size := Nat.lt_of_lt_of_le hz1 hb4.size; have B4 := below_step (w := w) (by repeat (first | assumption | exact Below.refl _ _ | apply below_alloc | apply below_drew)) hb4)
    | (go_at_call 49; refine (zNum_100 v _).mono ?_; rintro r w5 ⟨rfl, hb5⟩; obtain ⟨hc5, hf5⟩ := bcell hb5; have hz5 : w.heap.size < w5.heap.size := (by first | exact Nat.lt_of_lt_of_le hz4 hb5.size | exact Nat.lt_of_lt_of_le hz7 hb5.size); have B5 := below_step (w := w) (by repeat (first | assumption | exact Below.refl _ _ | apply below_alloc | apply below_drew)) hb5)
    | (go_at_call 47; refine (bw_f64_le e b v hv R _ ((B5.cell (p := ⟨e, 0, none⟩) he).trans c0) ((B5.cell (p := ⟨e, 2, none⟩) he).trans c2) (HHW.out.grown B5)).mono ?_; rintro r w6 ⟨rfl, hr6⟩; have HR6 := Aside0.mk hr6; obtain ⟨p6, f6⟩ := HHR.out w6 hr6; clear hr6))
  refine bodyPost_end (results_none (by rfl) _ _ _) rfl ⟨rfl, w6, HR6.out, rfl⟩

set_option maxHeartbeats 8000000 in
set_option maxRecDepth 100000 in
theorem en_100_be (e b v : Nat) (hv : v < 18446744073709551616) (q dep : Int) (hd0 : 0 ≤ dep) (hd : dep ≤ 64) (hq0 : 0 ≤ q) (hq1 : q < 4611686018427387904) (hm : q.tmod 8 = 0) (R : World → Prop) (w : World)
    (c0 : w.cell? ⟨e, 0, none⟩ = some (.iface 71 (.pointer (some ⟨b, 0, none⟩)))) (c2 : w.cell? ⟨e, 2, none⟩ = some (.iface 96 (.agg #[]))) (c3 : w.cell? ⟨e, 3, none⟩ = some (.int .i64 q)) (HW : Takes w b (Lib.beBytes 8 v) R)
    (hR : ∀ w', R w' → w'.cell? ⟨e, 3, none⟩ = some (.int .i64 q) ∧ w'.frozen? ⟨e, 3, none⟩ = false) :
    Calls Tryz.prog 36 #[.pointer (some ⟨e, 0, none⟩), .agg #[.iface 132 (.float .f64 v), .string ⟨#[100]⟩], .int .i64 dep] w fun r w' => r = .returned (.tuple #[]) ∧ ∃ w1, R w1 ∧ w' = w1.setCell ⟨e, 3, none⟩ (.int .i64 (q + 8)) := by
  have he := block_lt_of_cell c0
  have hw : wrap64 (q + 8) = q + 8 := by unfold wrap64; omega
  have HHW := Aside0.mk HW
  have HHR := Aside0.mk hR
  clear HW hR
  go_enter Tryz.func36, Tryz.ntmps36
  go_wp2_with (first
    | (go_at_call 43; refine (zType _ _ _).mono ?_; rintro r w1 ⟨rfl, hb1⟩; obtain ⟨hc1, hf1⟩ := bcell hb1; have hz1 : w.heap.size < w1.heap.size := new_lt hb1; have B1 := below_step (w := w) (by repeat (first | assumption | exact Below.refl _ _ | apply below_alloc | apply below_drew)) hb1)
    | (go_at_call 43; refine (zType _ _ _).mono ?_; rintro r w7 ⟨rfl, hb7⟩; obtain ⟨hc7, hf7⟩ := bcell hb7; have hz7 : w.heap.size < w7.heap.size := Nat.lt_of_lt_of_le hz4 hb7.size; have B7 := below_step (w := w) (by repeat (first | assumption | exact Below.refl _ _ | apply below_alloc | apply below_drew)) hb7)
    | (go_at_call 42; refine (align_100 _).mono ?_; rintro r w2 ⟨rfl, rfl⟩)
    | (go_at_call 41; refine (align0 e q 8 hq0 hq1 (by decide) hm _ ((B1.cell (p := ⟨e, 3, none⟩) he).trans c3)).mono ?_; rintro r w3 ⟨rfl, rfl⟩)
    | (go_at_call 44; refine (zKind_100 _ _).mono ?_; rintro r w4 ⟨rfl, hb4⟩; obtain ⟨hc4, hf4⟩ := bcell hb4; have hz4 : w.heap.size < w4.heap.size := Nat.lt_of_lt_of_le hz1 hb4.size; have B4 := below_step (w := w) (by repeat (first | assumption | exact Below.refl _ _ | apply below_alloc | apply below_drew)) hb4)
    | (go_at_call 49; refine (zNum_100 v _).mono ?_; rintro r w5 ⟨rfl, hb5⟩; obtain ⟨hc5, hf5⟩ := bcell hb5; have hz5 : w.heap.size < w5.heap.size := (by first | exact Nat.lt_of_lt_of_le hz4 hb5.size | exact Nat.lt_of_lt_of_le hz7 hb5.size); have B5 := below_step (w := w) (by repeat (first | assumption | exact Below.refl _ _ | apply below_alloc | apply below_drew)) hb5)
    | (go_at_call 47; refine (bw_f64_be e b v hv R _ ((B5.cell (p := ⟨e, 0, none⟩) he).trans c0) ((B5.cell (p := ⟨e, 2, none⟩) he).trans c2) (HHW.out.grown B5)).mono ?_; rintro r w6 ⟨rfl, hr6⟩; have HR6 := Aside0.mk hr6; obtain ⟨p6, f6⟩ := HHR.out w6 hr6; clear hr6))
  refine bodyPost_end (results_none (by rfl) _ _ _) rfl ⟨rfl, w6, HR6.out, rfl⟩

set_option maxHeartbeats 8000000 in
set_option maxRecDepth 100000 in
theorem en_104_le (e b v : Nat) (hv : v < 4294967296) (q dep : Int) (hd0 : 0 ≤ dep) (hd : dep ≤ 64) (hq0 : 0 ≤ q) (hq1 : q < 4611686018427387904) (hm : q.tmod 4 = 0) (R : World → Prop) (w : World)
    (c0 : w.cell? ⟨e, 0, none⟩ = some (.iface 71 (.pointer (some ⟨b, 0, none⟩)))) (c2 : w.cell? ⟨e, 2, none⟩ = some (.iface 97 (.agg #[]))) (c3 : w.cell? ⟨e, 3, none⟩ = some (.int .i64 q)) (HW : Takes w b (Lib.leBytes 4 v) R)
    (hR : ∀ w', R w' → w'.cell? ⟨e, 3, none⟩ = some (.int .i64 q) ∧ w'.frozen? ⟨e, 3, none⟩ = false) :
    Calls Tryz.prog 36 #[.pointer (some ⟨e, 0, none⟩), .agg #[.iface 156 (.int .u32 v), .string ⟨#[104]⟩], .int .i64 dep] w fun r w' => r = .returned (.tuple #[]) ∧ ∃ w1, R w1 ∧ w' = w1.setCell ⟨e, 3, none⟩ (.int .i64 (q + 4)) := by
  have he := block_lt_of_cell c0
  have hw : wrap64 (q + 4) = q + 4 := by unfold wrap64; omega
  have hwv : IntKind.u32.wrap (v : Int) = v := by unfold IntKind.wrap; simp [IntKind.signed, IntKind.bits]; omega
  have HHW := Aside0.mk HW
  have HHR := Aside0.mk hR
  clear HW hR
  go_enter Tryz.func36, Tryz.ntmps36
  go_wp2_with (first
    | (go_at_call 43; refine (zType _ _ _).mono ?_; rintro r w1 ⟨rfl, hb1⟩; obtain ⟨hc1, hf1⟩ := bcell hb1; have hz1 : w.heap.size < w1.heap.size := new_lt hb1; have B1 := below_step (w := w) (by repeat (first | assumption | exact Below.refl _ _ | apply below_alloc | apply below_drew)) hb1)
    | (go_at_call 43; refine (zType _ _ _).mono ?_; rintro r w7 ⟨rfl, hb7⟩; obtain ⟨hc7, hf7⟩ := bcell hb7; have hz7 : w.heap.size < w7.heap.size := Nat.lt_of_lt_of_le hz4 hb7.size; have B7 := below_step (w := w) (by repeat (first | assumption | exact Below.refl _ _ | apply below_alloc | apply below_drew)) hb7)
    | (go_at_call 42; refine (align_104 _).mono ?_; rintro r w2 ⟨rfl, rfl⟩)
    | (go_at_call 41; refine (align0 e q 4 hq0 hq1 (by decide) hm _ ((B1.cell (p := ⟨e, 3, none⟩) he).trans c3)).mono ?_; rintro r w3 ⟨rfl, rfl⟩)
    | (go_at_call 44; refine (zKind_104 _ _).mono ?_; rintro r w4 ⟨rfl, hb4⟩; obtain ⟨hc4, hf4⟩ := bcell hb4; have hz4 : w.heap.size < w4.heap.size := Nat.lt_of_lt_of_le hz1 hb4.size; have B4 := below_step (w := w) (by repeat (first | assumption | exact Below.refl _ _ | apply below_alloc | apply below_drew)) hb4)
    | (go_at_call 45; refine (zNum_104 v (by omega) (by omega) _).mono ?_; rintro r w5 ⟨rfl, hb5⟩; obtain ⟨hc5, hf5⟩ := bcell hb5; have hz5 : w.heap.size < w5.heap.size := (by first | exact Nat.lt_of_lt_of_le hz4 hb5.size | exact Nat.lt_of_lt_of_le hz7 hb5.size); have B5 := below_step (w := w) (by repeat (first | assumption | exact Below.refl _ _ | apply below_alloc | apply below_drew)) hb5)
    | (go_at_call 47; refine (bw_u32_le e b v hv R _ ((B5.cell (p := ⟨e, 0, none⟩) he).trans c0) ((B5.cell (p := ⟨e, 2, none⟩) he).trans c2) (HHW.out.grown B5)).mono ?_; rintro r w6 ⟨rfl, hr6⟩; have HR6 := Aside0.mk hr6; obtain ⟨p6, f6⟩ := HHR.out w6 hr6; clear hr6))
  refine bodyPost_end (results_none (by rfl) _ _ _) rfl ⟨rfl, w6, HR6.out, rfl⟩

set_option maxHeartbeats 8000000 in
set_option maxRecDepth 100000 in
theorem en_104_be (e b v : Nat) (hv : v < 4294967296) (q dep : Int) (hd0 : 0 ≤ dep) (hd : dep ≤ 64) (hq0 : 0 ≤ q) (hq1 : q < 4611686018427387904) (hm : q.tmod 4 = 0) (R : World → Prop) (w : World)
    (c0 : w.cell? ⟨e, 0, none⟩ = some (.iface 71 (.pointer (some ⟨b, 0, none⟩)))) (c2 : w.cell? ⟨e, 2, none⟩ = some (.iface 96 (.agg #[]))) (c3 : w.cell? ⟨e, 3, none⟩ = some (.int .i64 q)) (HW : Takes w b (Lib.beBytes 4 v) R)
    (hR : ∀ w', R w' → w'.cell? ⟨e, 3, none⟩ = some (.int .i64 q) ∧ w'.frozen? ⟨e, 3, none⟩ = false) :
    Calls Tryz.prog 36 #[.pointer (some ⟨e, 0, none⟩), .agg #[.iface 156 (.int .u32 v), .string ⟨#[104]⟩], .int .i64 dep] w fun r w' => r = .returned (.tuple #[]) ∧ ∃ w1, R w1 ∧ w' = w1.setCell ⟨e, 3, none⟩ (.int .i64 (q + 4)) := by
  have he := block_lt_of_cell c0
  have hw : wrap64 (q + 4) = q + 4 := by unfold wrap64; omega
  have hwv : IntKind.u32.wrap (v : Int) = v := by unfold IntKind.wrap; simp [IntKind.signed, IntKind.bits]; omega
  have HHW := Aside0.mk HW
  have HHR := Aside0.mk hR
  clear HW hR
  go_enter Tryz.func36, Tryz.ntmps36
  go_wp2_with (first
    | (go_at_call 43; refine (zType _ _ _).mono ?_; rintro r w1 ⟨rfl, hb1⟩; obtain ⟨hc1, hf1⟩ := bcell hb1; have hz1 : w.heap.size < w1.heap.size := new_lt hb1; have B1 := below_step (w := w) (by repeat (first | assumption | exact Below.refl _ _ | apply below_alloc | apply below_drew)) hb1)
    | (go_at_call 43; refine (zType _ _ _).mono ?_; rintro r w7 ⟨rfl, hb7⟩; obtain ⟨hc7, hf7⟩ := bcell hb7; have hz7 : w.heap.size < w7.heap.size := Nat.lt_of_lt_of_le hz4 hb7.size; have B7 := below_step (w := w) (by repeat (first | assumption | exact Below.refl _ _ | apply below_alloc | apply below_drew)) hb7)
    | (go_at_call 42; refine (align_104 _).mono ?_; rintro r w2 ⟨rfl, rfl⟩)
    | (go_at_call 41; refine (align0 e q 4 hq0 hq1 (by decide) hm _ ((B1.cell (p := ⟨e, 3, none⟩) he).trans c3)).mono ?_; rintro r w3 ⟨rfl, rfl⟩)
    | (go_at_call 44; refine (zKind_104 _ _).mono ?_; rintro r w4 ⟨rfl, hb4⟩; obtain ⟨hc4, hf4⟩ := bcell hb4; have hz4 : w.heap.size < w4.heap.size := Nat.lt_of_lt_of_le hz1 hb4.size; have B4 := below_step (w := w) (by repeat (first | assumption | exact Below.refl _ _ | apply below_alloc | apply below_drew)) hb4)
    | (go_at_call 45; refine (zNum_104 v (by omega) (by omega) _).mono ?_; rintro r w5 ⟨rfl, hb5⟩; obtain ⟨hc5, hf5⟩ := bcell hb5; have hz5 : w.heap.size < w5.heap.size := (by first | exact Nat.lt_of_lt_of_le hz4 hb5.size | exact Nat.lt_of_lt_of_le hz7 hb5.size); have B5 := below_step (w := w) (by repeat (first | assumption | exact Below.refl _ _ | apply below_alloc | apply below_drew)) hb5)
    | (go_at_call 47; refine (bw_u32_be e b v hv R _ ((B5.cell (p := ⟨e, 0, none⟩) he).trans c0) ((B5.cell (p := ⟨e, 2, none⟩) he).trans c2) (HHW.out.grown B5)).mono ?_; rintro r w6 ⟨rfl, hr6⟩; have HR6 := Aside0.mk hr6; obtain ⟨p6, f6⟩ := HHR.out w6 hr6; clear hr6))
  refine bodyPost_end (results_none (by rfl) _ _ _) rfl ⟨rfl, w6, HR6.out, rfl⟩
end Go.Proofs.YtldjigfnagfalaaGreatDoor.Given

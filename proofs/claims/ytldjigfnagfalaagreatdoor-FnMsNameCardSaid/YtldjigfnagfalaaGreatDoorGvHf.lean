/- Part of the proof of LawFnMsName. -/
import Derived.Test.YtldjigfnagfalaaGreatDoorGvW1
import Derived.Tactics
import Derived.Tactics2
import Derived.Defers
import Derived.Recover
import Derived.MapKept
set_option linter.unusedVariables false
set_option linter.unusedSimpArgs false
section
namespace Go.Proofs.YtldjigfnagfalaaGreatDoor.Given
open Go.RowKit Go.Proofs.YtldjigfnagfalaaGreatDoorW.PrintWords
set_option linter.unusedVariables false
attribute [local go_sem] me_write
set_option maxHeartbeats 8000000 in
set_option maxRecDepth 100000 in
theorem en_yT (e b v : Nat) (hv : v < 256) (q dep : Int) (hd0 : 0 ≤ dep) (hd : dep ≤ 64) (hq0 : 0 ≤ q) (hq1 : q < 4611686018427387904) (R : World → Prop) (w : World)
    (c0 : w.cell? ⟨e, 0, none⟩ = some (.iface 71 (.pointer (some ⟨b, 0, none⟩)))) (c3 : w.cell? ⟨e, 3, none⟩ = some (.int .i64 q)) (HW : Takes w b [UInt8.ofNat v] R)
    (hR : ∀ w', R w' → w'.cell? ⟨e, 3, none⟩ = some (.int .i64 q) ∧ w'.frozen? ⟨e, 3, none⟩ = false) :
    Calls Tryz.prog 36 #[.pointer (some ⟨e, 0, none⟩), .agg #[.iface 105 (.int .u8 v), .string ⟨#[121]⟩], .int .i64 dep] w fun r w' => r = .returned (.tuple #[]) ∧ ∃ w1, R w1 ∧ w' = w1.setCell ⟨e, 3, none⟩ (.int .i64 (q + 1)) := by
  have he := block_lt_of_cell c0
  have hw : wrap64 (q + 1) = q + 1 := by unfold wrap64; omega
  have hwv : IntKind.u8.wrap (v : Int) = v := by unfold IntKind.wrap; simp [IntKind.signed, IntKind.bits]; omega
  have hal : Tryz.prog.arrayLen 124 = 1 := by kernel_rfl
  have hel : Tryz.prog.elem 124 = 5 := by kernel_rfl
  have hsl : ∀ (g : Nat) (W : World), (Instr.sliceAt 124 (.pointer (some ⟨g, 0, none⟩)) none none none).run Tryz.prog W = .ok (.slice (some ⟨g, 0, none⟩) 1 1) W := fun g W => by kernel_rfl
  have HHW := Aside0.mk HW
  have HHR := Aside0.mk hR
  clear HW hR hal hel
  go_enter Tryz.func36, Tryz.ntmps36
  go_wp2_with (first
    | (go_at_call 43; refine (zType _ _ _).mono ?_; rintro r w1 ⟨rfl, hb1⟩; obtain ⟨hc1, hf1⟩ := bcell hb1; have hz1 : w.heap.size < w1.heap.size := new_lt' hb1; have B1 := below_step (w := w) (by repeat (first | assumption | exact Below.refl _ _ | apply below_alloc | apply below_drew)) hb1)
    | (go_at_call 42; refine (align_121 _).mono ?_; rintro r w2 ⟨rfl, rfl⟩)
    | (go_at_call 41; refine (align0 e q 1 hq0 hq1 (by decide) (Int.tmod_one q) _ ((B1.cell (p := ⟨e, 3, none⟩) he).trans c3)).mono ?_; rintro r w3 ⟨rfl, rfl⟩)
    | (go_at_call 44; refine (zKind_121 _ _).mono ?_; rintro r w4 ⟨rfl, hb4⟩; obtain ⟨hc4, hf4⟩ := bcell hb4; have hz4 : w.heap.size < w4.heap.size := Nat.lt_of_lt_of_le hz1 hb4.size; have B4 := below_step (w := w) (by repeat (first | assumption | exact Below.refl _ _ | apply below_alloc | apply below_drew)) hb4)
    | (go_at_call 45; refine (zNum_T _ v (by omega) (by omega) _).mono ?_; rintro r w5 ⟨rfl, hb5⟩; obtain ⟨hc5, hf5⟩ := bcell hb5; have hz5 : w.heap.size < w5.heap.size := Nat.lt_of_lt_of_le hz4 (Nat.le_trans (by simp) hb5.size); have B5 := below_step (w := w) (by repeat (first | assumption | exact Below.refl _ _ | apply below_alloc | apply below_drew)) hb5)
    | fail)
  have hold : w5.cell? ⟨w4.heap.size, 0, none⟩ = some (.int .u8 0) := by rw [hc5 _ _ (by simp)]; simp
  have hcs : ∀ j x, (Lib.byteCells [UInt8.ofNat v])[j]? = some x → ((w5.setCell ⟨w4.heap.size, 0, none⟩ (.int .u8 v)).drew).cell? ((⟨w4.heap.size, 0, none⟩ : Addr).add j) = some x := by
    intro j x hj
    obtain ⟨hj1, hj2⟩ := List.getElem?_eq_some_iff.1 hj
    obtain rfl : j = 0 := by rw [Lib.byteCells_length] at hj1; simpa using hj1
    rw [Lib.addr_add, ← hj2]
    show (w5.setCell ⟨w4.heap.size, 0, none⟩ (.int .u8 v)).cell? ⟨w4.heap.size, 0, none⟩ = some (.int .u8 ((UInt8.ofNat v).toNat : Int))
    rw [World.cell?_setCell_same w5 _ _ hold, UInt8.toNat_ofNat', Nat.mod_eq_of_lt hv]
  have HW2 := Aside0.mk (HHW.out ((w5.setCell ⟨w4.heap.size, 0, none⟩ (.int .u8 v)).drew) w4.heap.size 1 (below_drew (B5.setCell (p := ⟨w4.heap.size, 0, none⟩) B4.size _)) B4.size hcs)
  have hne : w4.heap.size ≠ e := Nat.ne_of_gt (Nat.lt_of_lt_of_le he B4.size)
  have d0 : w5.cell? ⟨e, 0, none⟩ = some (.iface 71 (.pointer (some ⟨b, 0, none⟩))) := (B5.cell (p := ⟨e, 0, none⟩) he).trans c0
  have d1 : (w5.setCell ⟨w4.heap.size, 0, none⟩ (.int .u8 v)).cell? ⟨e, 0, none⟩ = some (.iface 71 (.pointer (some ⟨b, 0, none⟩))) := (World.cell?_setCell_far _ _ _ _ hne).trans d0
  clear hcs hold
  go_region_with (go_at_call 124; refine (HW2.out).mono ?_; rintro r w6 ⟨rfl, hr6⟩; have HR6 := Aside0.mk hr6; obtain ⟨p6, f6⟩ := HHR.out w6 hr6; clear hr6)
  all_goals
    go_wp2
    refine bodyPost_end (results_none (by rfl) _ _ _) rfl ⟨rfl, w6, HR6.out, rfl⟩
set_option maxHeartbeats 8000000 in
set_option maxRecDepth 100000 in
theorem en_yF (e b v : Nat) (hv : v < 256) (q dep : Int) (hd0 : 0 ≤ dep) (hd : dep ≤ 64) (hq0 : 0 ≤ q) (hq1 : q < 4611686018427387904) (R : World → Prop) (w : World)
    (c0 : w.cell? ⟨e, 0, none⟩ = some (.iface 71 (.pointer (some ⟨b, 0, none⟩)))) (c3 : w.cell? ⟨e, 3, none⟩ = some (.int .i64 q)) (HW : Takes w b [UInt8.ofNat v] R)
    (hR : ∀ w', R w' → w'.cell? ⟨e, 3, none⟩ = some (.int .i64 q) ∧ w'.frozen? ⟨e, 3, none⟩ = false) :
    Calls Tryz.prog 36 #[.pointer (some ⟨e, 0, none⟩), .agg #[.iface 106 (.int .u8 v), .string ⟨#[121]⟩], .int .i64 dep] w fun r w' => r = .returned (.tuple #[]) ∧ ∃ w1, R w1 ∧ w' = w1.setCell ⟨e, 3, none⟩ (.int .i64 (q + 1)) := by
  have he := block_lt_of_cell c0
  have hw : wrap64 (q + 1) = q + 1 := by unfold wrap64; omega
  have hwv : IntKind.u8.wrap (v : Int) = v := by unfold IntKind.wrap; simp [IntKind.signed, IntKind.bits]; omega
  have hal : Tryz.prog.arrayLen 124 = 1 := by kernel_rfl
  have hel : Tryz.prog.elem 124 = 5 := by kernel_rfl
  have hsl : ∀ (g : Nat) (W : World), (Instr.sliceAt 124 (.pointer (some ⟨g, 0, none⟩)) none none none).run Tryz.prog W = .ok (.slice (some ⟨g, 0, none⟩) 1 1) W := fun g W => by kernel_rfl
  have HHW := Aside0.mk HW
  have HHR := Aside0.mk hR
  clear HW hR hal hel
  go_enter Tryz.func36, Tryz.ntmps36
  go_wp2_with (first
    | (go_at_call 43; refine (zType _ _ _).mono ?_; rintro r w1 ⟨rfl, hb1⟩; obtain ⟨hc1, hf1⟩ := bcell hb1; have hz1 : w.heap.size < w1.heap.size := new_lt' hb1; have B1 := below_step (w := w) (by repeat (first | assumption | exact Below.refl _ _ | apply below_alloc | apply below_drew)) hb1)
    | (go_at_call 42; refine (align_121 _).mono ?_; rintro r w2 ⟨rfl, rfl⟩)
    | (go_at_call 41; refine (align0 e q 1 hq0 hq1 (by decide) (Int.tmod_one q) _ ((B1.cell (p := ⟨e, 3, none⟩) he).trans c3)).mono ?_; rintro r w3 ⟨rfl, rfl⟩)
    | (go_at_call 44; refine (zKind_121 _ _).mono ?_; rintro r w4 ⟨rfl, hb4⟩; obtain ⟨hc4, hf4⟩ := bcell hb4; have hz4 : w.heap.size < w4.heap.size := Nat.lt_of_lt_of_le hz1 hb4.size; have B4 := below_step (w := w) (by repeat (first | assumption | exact Below.refl _ _ | apply below_alloc | apply below_drew)) hb4)
    | (go_at_call 45; refine (zNum_F _ v (by omega) (by omega) _).mono ?_; rintro r w5 ⟨rfl, hb5⟩; obtain ⟨hc5, hf5⟩ := bcell hb5; have hz5 : w.heap.size < w5.heap.size := Nat.lt_of_lt_of_le hz4 (Nat.le_trans (by simp) hb5.size); have B5 := below_step (w := w) (by repeat (first | assumption | exact Below.refl _ _ | apply below_alloc | apply below_drew)) hb5)
    | fail)
  have hold : w5.cell? ⟨w4.heap.size, 0, none⟩ = some (.int .u8 0) := by rw [hc5 _ _ (by simp)]; simp
  have hcs : ∀ j x, (Lib.byteCells [UInt8.ofNat v])[j]? = some x → ((w5.setCell ⟨w4.heap.size, 0, none⟩ (.int .u8 v)).drew).cell? ((⟨w4.heap.size, 0, none⟩ : Addr).add j) = some x := by
    intro j x hj
    obtain ⟨hj1, hj2⟩ := List.getElem?_eq_some_iff.1 hj
    obtain rfl : j = 0 := by rw [Lib.byteCells_length] at hj1; simpa using hj1
    rw [Lib.addr_add, ← hj2]
    show (w5.setCell ⟨w4.heap.size, 0, none⟩ (.int .u8 v)).cell? ⟨w4.heap.size, 0, none⟩ = some (.int .u8 ((UInt8.ofNat v).toNat : Int))
    rw [World.cell?_setCell_same w5 _ _ hold, UInt8.toNat_ofNat', Nat.mod_eq_of_lt hv]
  have HW2 := Aside0.mk (HHW.out ((w5.setCell ⟨w4.heap.size, 0, none⟩ (.int .u8 v)).drew) w4.heap.size 1 (below_drew (B5.setCell (p := ⟨w4.heap.size, 0, none⟩) B4.size _)) B4.size hcs)
  have hne : w4.heap.size ≠ e := Nat.ne_of_gt (Nat.lt_of_lt_of_le he B4.size)
  have d0 : w5.cell? ⟨e, 0, none⟩ = some (.iface 71 (.pointer (some ⟨b, 0, none⟩))) := (B5.cell (p := ⟨e, 0, none⟩) he).trans c0
  have d1 : (w5.setCell ⟨w4.heap.size, 0, none⟩ (.int .u8 v)).cell? ⟨e, 0, none⟩ = some (.iface 71 (.pointer (some ⟨b, 0, none⟩))) := (World.cell?_setCell_far _ _ _ _ hne).trans d0
  clear hcs hold
  go_region_with (go_at_call 124; refine (HW2.out).mono ?_; rintro r w6 ⟨rfl, hr6⟩; have HR6 := Aside0.mk hr6; obtain ⟨p6, f6⟩ := HHR.out w6 hr6; clear hr6)
  all_goals
    go_wp2
    refine bodyPost_end (results_none (by rfl) _ _ _) rfl ⟨rfl, w6, HR6.out, rfl⟩
structure Hd (w0 w : World) (B e b : Nat) (o : TypeId) (f : Value) (bs : List UInt8) : Prop where
  ex : ∃ gg, w0.heap.size ≤ gg ∧ Sm w B b gg bs
  enc : w.heap[e]? = some (efCells b o f (bs.length : Int))
  below : Below B w0 w
  stays : Stays e b w0 w
  lo : B ≤ e
  low : B ≤ w0.heap.size
theorem Sm.enc_ne {w : World} {B e b g : Nat} {o : TypeId} {f : Value} {q : Int} {bs : List UInt8} (h : Sm w B b g bs) (hE : w.heap[e]? = some (efCells b o f q)) : e ≠ b ∧ e ≠ g := by
  constructor
  · rintro rfl
    obtain ⟨lr, cur, h1, -⟩ := h.ex
    have := hE.symm.trans h1; simp at this
  · rintro rfl
    obtain ⟨lr, cur, -, h1, -⟩ := h.ex
    have := hE.symm.trans h1; simp at this
theorem Hd.old {w0 w w' : World} {B e b : Nat} {o : TypeId} {f : Value} {bs : List UInt8} (h : Hd w0 w B e b o f bs) (hb : Below w.heap.size w w') : Hd w0 w' B e b o f bs := by
  obtain ⟨gg, hgg, hS⟩ := h.ex
  exact ⟨⟨gg, hgg, hS.old (hb.block b hS.buf.lt) (hb.block gg hS.lt)⟩, (hb.block e (Lib.lt_of_heap h.enc)).trans h.enc, h.below.trans (hb.mono (Nat.le_trans h.low h.below.size)), h.stays.old hb, h.lo, h.low⟩
theorem Hd.step {w0 w : World} {B e b : Nat} {o : TypeId} {f : Value} {bs bytes : List UInt8} (h : Hd w0 w B e b o f bs) (args : Array Value) (hl0 : 0 < bytes.length) (hl : bs.length + bytes.length ≤ 64)
    (hc : ∀ R : World → Prop, Takes w b bytes R → (∀ w', R w' → w'.cell? ⟨e, 3, none⟩ = some (.int .i64 bs.length) ∧ w'.frozen? ⟨e, 3, none⟩ = false) → Calls Tryz.prog 36 args w fun r w' => r = .returned (.tuple #[]) ∧ ∃ w1, R w1 ∧ w' = w1.setCell ⟨e, 3, none⟩ (.int .i64 (bs.length + bytes.length))) :
    Calls Tryz.prog 36 args w fun r w' => r = .returned (.tuple #[]) ∧ Hd w0 w' B e b o f (bs ++ bytes) := by
  obtain ⟨gg, hgg, hS⟩ := h.ex
  obtain ⟨hne, hneg⟩ := hS.enc_ne h.enc
  have hle := Lib.lt_of_heap h.enc
  have hlb : b < w.heap.size := hS.buf.lt
  have hlg := hS.lt
  refine (hc _ (takes_room B b gg bs bytes w hS (Nat.le_trans h.low h.below.size) hl0 hl) ?_).mono ?_
  · rintro w' ⟨hS2, hb, hk⟩
    have h2 := (hk e hle hne hneg).trans h.enc
    obtain ⟨-, -, -, d3, -, g3⟩ := ef_cells h2
    exact ⟨d3, g3⟩
  · rintro r w' ⟨rfl, w1, ⟨hS2, hb, hk⟩, rfl⟩
    have h2 := (hk e hle hne hneg).trans h.enc
    refine ⟨rfl, ⟨gg, hgg, hS2.old (Below.heap_setCell _ _ _ _ (Ne.symm hne)) (Below.heap_setCell _ _ _ _ (Ne.symm hneg))⟩, ?_, (h.below.trans hb).setCell (p := ⟨e, 3, none⟩) h.lo _, fun x ob hx hxe hxb hob => ?_, h.lo, h.low⟩
    · rw [List.length_append, Int.natCast_add]
      exact Lib.heap_setCell_same (i := 3) h2 _
    · rw [Below.heap_setCell _ _ _ _ hxe]
      have hw := h.stays x ob hx hxe hxb hob
      refine (hk x (Lib.lt_of_heap hw) hxb ?_).trans hw
      rintro rfl
      have := Lib.lt_of_heap hx
      omega
theorem Hd.first {w0 : World} {B e b : Nat} {o : TypeId} {f : Value} {lr : Int} {y : UInt8} (hE : w0.heap[e]? = some (efCells b o f 0)) (hbk : w0.heap[b]? = some (.cells #[.slice none 0 0, .int .i64 0, .int .i8 lr] 68)) (hBe : B ≤ e) (hBb : B ≤ b) (hBw : B ≤ w0.heap.size) (args : Array Value)
    (hc : ∀ R : World → Prop, Takes w0 b [y] R → (∀ w', R w' → w'.cell? ⟨e, 3, none⟩ = some (.int .i64 0) ∧ w'.frozen? ⟨e, 3, none⟩ = false) → Calls Tryz.prog 36 args w0 fun r w' => r = .returned (.tuple #[]) ∧ ∃ w1, R w1 ∧ w' = w1.setCell ⟨e, 3, none⟩ (.int .i64 (0 + 1))) :
    Calls Tryz.prog 36 args w0 fun r w' => r = .returned (.tuple #[]) ∧ Hd w0 w' B e b o f [y] := by
  have hle := Lib.lt_of_heap hE
  have hlb := Lib.lt_of_heap hbk
  have hne : e ≠ b := by
    rintro rfl
    have := hE.symm.trans hbk; simp at this
  have hT : Takes w0 b [y] (fun w' => ∃ gg, w0.heap.size ≤ gg ∧ Sm w' B b gg [y] ∧ Below B w0 w' ∧ ∀ x, x < w0.heap.size → x ≠ b → w'.heap[x]? = w0.heap[x]?) := by
    intro W' g c hb hg hcs
    refine (write_first1 B b lr [y] ⟨g, 0, none⟩ c W' hBb (Nat.le_trans hBw hb.size) ((hb.block b hlb).trans hbk) rfl (show g ≠ b by omega) hcs).mono ?_
    rintro r w' ⟨rfl, hS, hBl, hbut⟩
    have := hb.size
    exact ⟨rfl, W'.heap.size, hb.size, hS, (hb.mono hBw).trans hBl, fun x hx hxb => (hbut x (by omega) hxb (by omega)).trans (hb.block x hx)⟩
  refine (hc _ hT ?_).mono ?_
  · rintro w' ⟨gg, hgg, hS2, hb, hk⟩
    have h2 := (hk e hle hne).trans hE
    obtain ⟨-, -, -, d3, -, g3⟩ := ef_cells h2
    exact ⟨d3, g3⟩
  · rintro r w' ⟨rfl, w1, ⟨gg, hgg, hS2, hb, hk⟩, rfl⟩
    have h2 := (hk e hle hne).trans hE
    refine ⟨rfl, ⟨gg, hgg, hS2.old (Below.heap_setCell _ _ _ _ (Ne.symm hne)) (Below.heap_setCell _ _ _ _ (show gg ≠ e by omega))⟩, Lib.heap_setCell_same (i := 3) h2 _, hb.setCell (p := ⟨e, 3, none⟩) hBe _, fun x ob hx hxe hxb hob => ?_, hBe, hBw⟩
    rw [Below.heap_setCell _ _ _ _ hxe]
    exact (hk x (Lib.lt_of_heap hx) hxb).trans hx
theorem hd_y0 (v : Nat) (hv : v < 256) {w0 : World} {B e b : Nat} {o : TypeId} {f : Value} {lr : Int} (hE : w0.heap[e]? = some (efCells b o f 0)) (hbk : w0.heap[b]? = some (.cells #[.slice none 0 0, .int .i64 0, .int .i8 lr] 68)) (hBe : B ≤ e) (hBb : B ≤ b) (hBw : B ≤ w0.heap.size) :
    Calls Tryz.prog 36 #[.pointer (some ⟨e, 0, none⟩), .agg #[.iface 5 (.int .u8 v), .string ⟨#[121]⟩], .int .i64 0] w0 fun r w' => r = .returned (.tuple #[]) ∧ Hd w0 w' B e b o f [UInt8.ofNat v] := by
  obtain ⟨c0, -, -, c3, -, -⟩ := ef_cells hE
  exact Hd.first hE hbk hBe hBb hBw _ fun R hT hR => en_121 e b v hv 0 0 (by decide) (by decide) (by decide) (by decide) R w0 c0 c3 hT hR
theorem hd_y (v : Nat) (hv : v < 256) {w0 w : World} {B e b : Nat} {o : TypeId} {f : Value} {bs : List UInt8} (h : Hd w0 w B e b o f bs) (hl : bs.length ≤ 30) :
    Calls Tryz.prog 36 #[.pointer (some ⟨e, 0, none⟩), .agg #[.iface 5 (.int .u8 v), .string ⟨#[121]⟩], .int .i64 0] w fun r w' => r = .returned (.tuple #[]) ∧ Hd w0 w' B e b o f (bs ++ [UInt8.ofNat v]) := by
  obtain ⟨c0, -, -, c3, -, -⟩ := ef_cells h.enc
  exact h.step _ (by simp) (by simp; omega) fun R hT hR => en_121 e b v hv bs.length 0 (by decide) (by decide) (by omega) (by omega) R w c0 c3 hT hR
theorem hd_T (v : Nat) (hv : v < 256) {w0 w : World} {B e b : Nat} {o : TypeId} {f : Value} {bs : List UInt8} (h : Hd w0 w B e b o f bs) (hl : bs.length ≤ 30) :
    Calls Tryz.prog 36 #[.pointer (some ⟨e, 0, none⟩), .agg #[.iface 105 (.int .u8 v), .string ⟨#[121]⟩], .int .i64 0] w fun r w' => r = .returned (.tuple #[]) ∧ Hd w0 w' B e b o f (bs ++ [UInt8.ofNat v]) := by
  obtain ⟨c0, -, -, c3, -, -⟩ := ef_cells h.enc
  exact h.step _ (by simp) (by simp; omega) fun R hT hR => en_yT e b v hv bs.length 0 (by decide) (by decide) (by omega) (by omega) R w c0 c3 hT hR
theorem hd_F (v : Nat) (hv : v < 256) {w0 w : World} {B e b : Nat} {o : TypeId} {f : Value} {bs : List UInt8} (h : Hd w0 w B e b o f bs) (hl : bs.length ≤ 30) :
    Calls Tryz.prog 36 #[.pointer (some ⟨e, 0, none⟩), .agg #[.iface 106 (.int .u8 v), .string ⟨#[121]⟩], .int .i64 0] w fun r w' => r = .returned (.tuple #[]) ∧ Hd w0 w' B e b o f (bs ++ [UInt8.ofNat v]) := by
  obtain ⟨c0, -, -, c3, -, -⟩ := ef_cells h.enc
  exact h.step _ (by simp) (by simp; omega) fun R hT hR => en_yF e b v hv bs.length 0 (by decide) (by decide) (by omega) (by omega) R w c0 c3 hT hR
theorem hd_u (big : Bool) (v : Nat) (hv : v < 4294967296) {w0 w : World} {B e b : Nat} {f : Value} {bs : List UInt8} (h : Hd w0 w B e b (ordOf big) f bs) (hl : bs.length ≤ 30) (hm : bs.length % 4 = 0) :
    Calls Tryz.prog 36 #[.pointer (some ⟨e, 0, none⟩), .agg #[.iface 36 (.int .u32 v), .string ⟨#[117]⟩], .int .i64 0] w fun r w' => r = .returned (.tuple #[]) ∧ Hd w0 w' B e b (ordOf big) f (bs ++ cntBytes big v) := by
  refine h.step _ (by rw [cntBytes_length]; decide) (by rw [cntBytes_length]; omega) fun R hT hR => ?_
  have := en_u32f big e b v hv f bs.length 0 (by decide) (by decide) (by omega) (by omega) (Int.tmod_eq_zero_of_dvd (by omega)) R w h.enc hT hR
  rw [cntBytes_length]
  exact this
end Go.Proofs.YtldjigfnagfalaaGreatDoor.Given
end
section
namespace Go.Proofs.YtldjigfnagfalaaGreatDoor.Given
open Go.RowKit Go.Proofs.YtldjigfnagfalaaGreatDoorW.PrintWords
set_option linter.unusedVariables false
structure HF where
  code : Nat
  sig : ByteArray
  T : TypeId
  y : Value
  ty : ByteArray
  fb : Bool → Nat → List UInt8
structure HF.Ok (x : HF) : Prop where
  hc : x.code < 256
  hs : x.sig.size ≤ 200
  enc : ∀ big w0, EncV 500000 60 w0 big (.iface x.T x.y) x.ty (x.fb big)
  val : ValV (.iface x.T x.y) x.ty
  len : ∀ big q, (x.fb big q).length ≤ 1000
def HF.var (x : HF) : Value := .iface 113 (.agg #[.string x.sig, .iface x.T x.y])
def HF.bytes (x : HF) (big : Bool) : Nat → List UInt8 := recBytes x.code x.sig (x.fb big)
theorem HF.bytes_len (x : HF) (h : x.Ok) (big : Bool) (q : Nat) : (x.bytes big q).length ≤ 1300 := by
  have h1 := h.len big (q + pd 8 q + 1 + (x.sig.size + 2))
  have h2 := pd_lt (n := 8) (a := q) (by decide)
  have h3 := h.hs
  unfold HF.bytes recBytes varBytes
  simp only [List.length_append, List.length_replicate, sigBytes_len, List.length_cons, List.length_nil]
  omega
structure RecsIn (w : World) (g : Nat) (xs : List Value) (L : List HF) : Prop where
  row : ∃ (cur : Array Value) (fz : Nat × Nat), w.heap[g]? = some (.cells cur 20 fz) ∧ ∀ (i : Nat) (x : Value), xs[i]? = some x → cur[i]? = some x
  len : xs.length = L.length
  recs : ∀ (i : Nat) (x : HF), L[i]? = some x → ∃ (gr c : Nat) (cs : Array Value) (fz : Nat × Nat), xs[i]? = some (.iface 158 (.agg #[.slice (some ⟨gr, 0, none⟩) 2 c])) ∧ w.heap[gr]? = some (.cells cs 20 fz) ∧ cs[0]? = some (.iface 5 (.int .u8 x.code)) ∧ cs[1]? = some x.var
theorem RecsIn.stays {w w' : World} {e b g : Nat} {xs : List Value} {L : List HF} {f : Value} {q : Int} {o : TypeId} {bc : Array Value} {fz0 : Nat × Nat} (h : RecsIn w g xs L) (hs : Stays e b w w') (hE : w.heap[e]? = some (efCells b o f q)) (hb : w.heap[b]? = some (.cells bc 68 fz0)) : RecsIn w' g xs L := by
  have hk : ∀ (x : Nat) (cs : Array Value) (fz : Nat × Nat), w.heap[x]? = some (.cells cs 20 fz) → w'.heap[x]? = some (.cells cs 20 fz) := fun x cs fz hx => by
    refine hs x _ hx ?_ ?_ (by intro c fz hc; cases hc)
    · rintro rfl; have := hx.symm.trans hE; simp at this
    · rintro rfl; have := hx.symm.trans hb; simp at this
  obtain ⟨cur, fz, h1, h2⟩ := h.row
  refine ⟨⟨cur, fz, hk g cur fz h1, h2⟩, h.len, fun i x hi => ?_⟩
  obtain ⟨gr, c, cs, fz2, h3, h4, h5⟩ := h.recs i x hi
  exact ⟨gr, c, cs, fz2, h3, hk gr cs fz2 h4, h5⟩
theorem recsFrom_le (L : List HF) (hL : ∀ x ∈ L, x.Ok) (big : Bool) : ∀ q, (recsFrom q (L.map fun x => x.bytes big)).length ≤ L.length * 1300 := by
  induction L with
  | nil => intro q; simp [recsFrom]
  | cons a L ih =>
    intro q
    have h1 := HF.bytes_len a (hL a (by simp)) big q
    have h2 := ih (fun x hx => hL x (by simp [hx])) (q + (a.bytes big q).length)
    simp only [List.map_cons, recsFrom, List.length_append, List.length_cons]
    omega
def hdrBytes (big : Bool) (L : List HF) : List UInt8 := recsFrom 16 (L.map fun x => x.bytes big)
theorem enc_hdr (big : Bool) (B e b gg p g k : Nat) (fo : Option Addr) (fl fc : Nat) (hd : List UInt8) (L : List HF) (xs : List Value) (w : World)
    (hBe : B ≤ e) (hBw : B ≤ w.heap.size) (hE : w.heap[e]? = some (efCells b (ordOf big) (.slice fo fl fc) 12)) (hS : Sm w B b gg hd) (hhd : hd.length = 12)
    (hP : w.cell? ⟨p, 1, none⟩ = some (.slice (some ⟨g, 0, none⟩) L.length k)) (hn2 : L.length ≤ 10) (hL : ∀ x ∈ L, x.Ok) (hR : RecsIn w g xs L) :
    Calls Tryz.prog 36 #[.pointer (some ⟨e, 0, none⟩), .agg #[.iface 162 (.pointer (some ⟨p, 0, none⟩)), .string ⟨#[91, 40, 121, 118, 41]⟩], .int .i64 0] w fun r w' => r = .returned (.tuple #[]) ∧
      Eg w w' B e b (ordOf big) (.slice fo fl fc) (16 + (hdrBytes big L).length) (hd ++ cntBytes big (hdrBytes big L).length ++ hdrBytes big L) := by
  have hm : (xs.zip (L.map fun x => x.bytes big)).map (·.2) = L.map fun x => x.bytes big := List.map_snd_zip (by rw [List.length_map, hR.len]; exact Nat.le_refl _)
  have h := enc_recs big B e b gg p g L.length k fo fl fc hd (xs.zip (L.map fun x => x.bytes big)) w hBe hBw hE hS hhd hP (by rw [List.length_zip, List.length_map, hR.len]; omega) hn2 ?_ ?_
  · rw [hm] at h
    exact h
  · intro i X hX
    obtain ⟨cur, fz, h1, h2⟩ := hR.row
    have hX' := List.getElem?_zip_eq_some.1 hX
    have hx2 := hX'.2
    rw [List.getElem?_map] at hx2
    obtain ⟨x, hx, hxb⟩ := Option.map_eq_some_iff.1 hx2
    obtain ⟨gr, c, cs, fz2, h3, h4, h5, h6⟩ := hR.recs i x hx
    have hx1 : X.1 = .iface 158 (.agg #[.slice (some ⟨gr, 0, none⟩) 2 c]) := Option.some.inj (hX'.1.symm.trans h3)
    have ok := hL x (List.mem_of_getElem? hx)
    refine ⟨?_, ⟨_, _, hx1⟩, ?_⟩
    · rw [Lib.cell_of_heap h1]
      exact h2 i X.1 hX'.1
    · rw [hx1, ← hxb]
      exact encV_r w big x.code ok.hc gr c x.sig ok.hs x.T x.y x.ty (x.fb big) (ok.enc big w) ok.val (by rw [Lib.cell_of_heap h4]; exact h5) (by rw [Lib.cell_of_heap h4]; exact h6)
  · intro j
    have : ((xs.zip (L.map fun x => x.bytes big)).take j).map (·.2) = (L.take j).map fun x => x.bytes big := by
      rw [List.map_take, hm, List.map_take]
    rw [this]
    have h1 := recsFrom_le (L.take j) (fun x hx => hL x (List.mem_of_mem_take hx)) big 16
    have h2 : (L.take j).length ≤ 10 := by rw [List.length_take]; omega
    have h3 : (L.take j).length * 1300 ≤ 10 * 1300 := Nat.mul_le_mul_right _ h2
    omega
end Go.Proofs.YtldjigfnagfalaaGreatDoor.Given
end
section
namespace Go.Proofs.YtldjigfnagfalaaGreatDoor.Given
open Go.RowKit Go.Proofs.YtldjigfnagfalaaGreatDoorW.PrintWords
set_option linter.unusedVariables false
theorem Hd.from {wA w0 w : World} {B e b : Nat} {o : TypeId} {f : Value} {bs : List UInt8} (h : Hd w0 w B e b o f bs) (hb : Below wA.heap.size wA w0) (hBw : B ≤ wA.heap.size) : Hd wA w B e b o f bs := by
  obtain ⟨gg, hgg, hS⟩ := h.ex
  exact ⟨⟨gg, Nat.le_trans hb.size hgg, hS⟩, h.enc, (hb.mono hBw).trans h.below, ((Stays.refl e b wA).old hb).trans h.stays, h.lo, hBw⟩
set_option maxHeartbeats 4000000 in
theorem valueOf_l (p : Nat) (w : World) (c0 : w.cell? ⟨p, 0, none⟩ = some (.string ⟨#[40, 121, 118, 41]⟩)) : Calls Tryz.prog 37 #[.iface 162 (.pointer (some ⟨p, 0, none⟩))] w fun e w' => e = .returned (.agg #[.iface 162 (.pointer (some ⟨p, 0, none⟩)), .string ⟨#[91, 40, 121, 118, 41]⟩]) ∧ Below w.heap.size w w' := by
  have hp := block_lt_of_cell c0
  have ht : (⟨#[91]⟩ : ByteArray) ++ ⟨#[40, 121, 118, 41]⟩ = ⟨#[91, 40, 121, 118, 41]⟩ := rfl
  go_enter Tryz.func37, Tryz.ntmps37
  go_wp2_with fail
  refine (typeOf_list p ⟨#[40, 121, 118, 41]⟩ (show 4 ≤ 64 by decide) _ ((((Below.refl _ _).alloc (Nat.le_refl _) _).cell (p := ⟨p, 0, none⟩) hp).trans c0)).mono ?_
  rw [ht]
  rintro e w1 ⟨rfl, hb⟩
  obtain ⟨hc, hf⟩ := bcell hb
  go_wp2
  refine bodyPost_ret (v := .agg #[.iface 162 (.pointer (some ⟨p, 0, none⟩)), .string ⟨#[91, 40, 121, 118, 41]⟩]) (by simp [results, go_sem, hc]) rfl ⟨rfl, ?_⟩
  exact ((below_new hb).setCell (Nat.le_refl _) _).setCell (Nat.le_refl _) _
theorem en_idle7 (p : Addr) (w : World) :
    CallsD Tryz.prog 35 #[.pointer (some p)] .returning w fun e u' w' => e = .returned (.tuple #[]) ∧ u' = .returning ∧ w' = w := by
  refine callsD_of_wpS Tryz.func35 rfl fun c₀ cs hu => ?_
  apply wpS_seq
  apply wpS_region
  simp [wpOpsS, go_sem, recoverD, hu, Tryz.ntmps35, Exit.thenS]
  refine wpS_of_wp ?_
  rw [show (#[Value.pointer (some p)] ++ ((Array.replicate 15 undef).setIfInBounds 3 Value.nilIface).setIfInBounds 0 Value.nilIface) = #[.pointer (some p), .nilIface, undef, undef, .nilIface, undef, undef, undef, undef, undef, undef, undef, undef, undef, undef, undef] from rfl]
  go_wp2
  cases c₀
  simp_all [bodyPostS, results, Tryz.results35]
theorem set_own {w : World} {x : Nat} {v : Value} {t : TypeId} (h : w.heap[x]? = some (.cells #[v] t)) : w.setCell ⟨x, 0, none⟩ v = w := by
  rw [setCell_eq_setRow _ x 0 #[v] t (0, 0) _ h]
  exact setRow_self _ _ _ t (0, 0) h
def headBytes (big : Bool) (v0 t fl s : Nat) : List UInt8 := [UInt8.ofNat v0] ++ [UInt8.ofNat t] ++ [UInt8.ofNat fl] ++ [UInt8.ofNat 1] ++ cntBytes big 0 ++ cntBytes big s
def vals7 (v0 t fl s p : Nat) : Array Value := #[.iface 5 (.int .u8 v0), .iface 105 (.int .u8 t), .iface 106 (.int .u8 fl), .iface 5 (.int .u8 1), .iface 36 (.int .u32 0), .iface 36 (.int .u32 s), .iface 162 (.pointer (some ⟨p, 0, none⟩))]
set_option maxHeartbeats 32000000 in
set_option maxRecDepth 100000 in
theorem encode_msg (big : Bool) (v0 t fl s : Nat) (hv0 : v0 < 256) (ht : t < 256) (hfl : fl < 256) (hs : s < 4294967296) (B e b p g k va cv : Nat) (fo : Option Addr) (fl1 fc : Nat) (L : List HF) (xs : List Value) (w : World)
    (hBe : B ≤ e) (hBb : B ≤ b) (hBw : B ≤ w.heap.size)
    (hE : w.heap[e]? = some (efCells b (ordOf big) (.slice fo fl1 fc) 0)) (lr : Int) (hbk : w.heap[b]? = some (.cells #[.slice none 0 0, .int .i64 0, .int .i8 lr] 68)) (hva : w.heap[va]? = some (.cells (vals7 v0 t fl s p) 168))
    (hP : w.heap[p]? = some (.cells #[.string ⟨#[40, 121, 118, 41]⟩, .slice (some ⟨g, 0, none⟩) L.length k] 164)) (hn2 : L.length ≤ 10) (hL : ∀ x ∈ L, x.Ok) (hR : RecsIn w g xs L) :
    Calls Tryz.prog 26 #[.pointer (some ⟨e, 0, none⟩), .slice (some ⟨va, 0, none⟩) 7 cv] w fun r w' => r = .returned .nilIface ∧ Eg w w' B e b (ordOf big) (.slice fo fl1 fc) (16 + (hdrBytes big L).length) (headBytes big v0 t fl s ++ cntBytes big (hdrBytes big L).length ++ hdrBytes big L) := by
  have hmf : ∀ (fn : Fn) (first cap : Array Value) (w : World), (Instr.makeFunc fn first cap).run Tryz.prog w = .ok (.func fn first cap) w := fun _ _ _ _ => rfl
  have hle := Lib.lt_of_heap hE
  have hlb := Lib.lt_of_heap hbk
  have hlv := Lib.lt_of_heap hva
  have hlp := Lib.lt_of_heap hP
  have hvne : va ≠ e ∧ va ≠ b := by constructor <;> (rintro rfl; first | (have := hva.symm.trans hE; simp at this; done) | (have := hva.symm.trans hbk; simp at this; done))
  have hpne : p ≠ e ∧ p ≠ b := by constructor <;> (rintro rfl; first | (have := hP.symm.trans hE; simp at this; done) | (have := hP.symm.trans hbk; simp at this; done))
  have hbA : Below w.heap.size w (w.alloc (.cells #[.nilIface] 50)) := (Below.refl _ w).alloc (Nat.le_refl _) _
  obtain ⟨wA, hwA⟩ : ∃ wA, w.alloc (.cells #[.nilIface] 50) = wA := ⟨_, rfl⟩
  have hzA : wA.heap.size = w.heap.size + 1 := by rw [← hwA]; simp
  have hrA : wA.heap[w.heap.size]? = some (.cells #[.nilIface] 50) := by rw [← hwA]; exact heap_alloc_new w _
  have hWA := hwA
  rw [hWA] at hbA
  have HE := Aside0.mk (boxed_block hE hbA)
  have HBK := Aside0.mk (boxed_block hbk hbA)
  have HVA := Aside0.mk (boxed_block hva hbA)
  have HP := Aside0.mk (boxed_block hP hbA)
  have HR := Aside0.mk (hR.stays ((Stays.refl e b w).old hbA) hE hbk)
  have HRA := Aside0.mk hrA
  have HBA := Aside0.mk hbA
  have HL := Aside0.mk hL
  clear hE hbk hva hP hR hrA hbA hL hWA
  go_enter_defers Tryz.func26, Tryz.ntmps26
  go_wp2_with fail
  go_loopw [10] (fun i wr => Aside0 (i = .int .i64 0 ∧ wA = wr) ∨ Aside0 (i = .int .i64 1 ∧ Hd wA wr B e b (ordOf big) (.slice fo fl1 fc) ([UInt8.ofNat v0])) ∨ Aside0 (i = .int .i64 2 ∧ Hd wA wr B e b (ordOf big) (.slice fo fl1 fc) ([UInt8.ofNat v0] ++ [UInt8.ofNat t])) ∨ Aside0 (i = .int .i64 3 ∧ Hd wA wr B e b (ordOf big) (.slice fo fl1 fc) ([UInt8.ofNat v0] ++ [UInt8.ofNat t] ++ [UInt8.ofNat fl])) ∨ Aside0 (i = .int .i64 4 ∧ Hd wA wr B e b (ordOf big) (.slice fo fl1 fc) ([UInt8.ofNat v0] ++ [UInt8.ofNat t] ++ [UInt8.ofNat fl] ++ [UInt8.ofNat 1])) ∨ Aside0 (i = .int .i64 5 ∧ Hd wA wr B e b (ordOf big) (.slice fo fl1 fc) ([UInt8.ofNat v0] ++ [UInt8.ofNat t] ++ [UInt8.ofNat fl] ++ [UInt8.ofNat 1] ++ cntBytes big 0)) ∨ Aside0 (i = .int .i64 6 ∧ Hd wA wr B e b (ordOf big) (.slice fo fl1 fc) (headBytes big v0 t fl s)) ∨ Aside0 (i = .int .i64 7 ∧ Eg wA wr B e b (ordOf big) (.slice fo fl1 fc) (16 + (hdrBytes big L).length) (headBytes big v0 t fl s ++ cntBytes big (hdrBytes big L).length ++ hdrBytes big L))) (fun i _ => 7 - (intOf i).toNat)
  case atStart => exact Or.inl ⟨rfl, rfl⟩
  case round =>
    clear hwA
    rcases hrel with ⟨rfl, rfl⟩ | ⟨rfl, h1⟩ | ⟨rfl, h1⟩ | ⟨rfl, h1⟩ | ⟨rfl, h1⟩ | ⟨rfl, h1⟩ | ⟨rfl, h1⟩ | ⟨rfl, h1⟩
    · have hcell : wA.cell? ⟨va, 0, none⟩ = some (.iface 5 (.int .u8 v0)) := by rw [Lib.cell_of_heap HVA.out]; rfl
      go_wp2_with fail
      refine (valueOf_121 (.int .u8 v0) _).mono ?_
      rintro r w2 ⟨rfl, hb2⟩
      have HB2 := Aside0.mk hb2
      clear hb2 hcell
      go_wp2_with fail
      refine (hd_y0 v0 hv0 (boxed_block HE.out HB2.out) (boxed_block HBK.out HB2.out) hBe hBb (by have := HB2.out.size; omega)).mono ?_
      rintro r w3 ⟨rfl, hH⟩
      have H3 := Aside0.mk (hH.from HB2.out (by omega))
      clear hH HB2
      go_wp2_with fail
      go_roundw
      case rel => exact Or.inr (Or.inl ⟨by go_num, H3.out⟩)
      case measure => simp [intOf]
    · have H1 := Aside0.mk h1
      have hcell : wr.cell? ⟨va, 1, none⟩ = some (.iface 105 (.int .u8 t)) := by rw [Lib.cell_of_heap (h1.stays va _ HVA.out hvne.1 hvne.2 (by intro c fz hc; cases hc))]; rfl
      clear h1
      go_wp2_with fail
      refine (valueOf_T (t : Int) _).mono ?_
      rintro r w2 ⟨rfl, hb2⟩
      have H2 := Aside0.mk (H1.out.old hb2)
      clear hb2 hcell H1
      go_wp2_with fail
      refine (hd_T t ht H2.out (by simp)).mono ?_
      rintro r w3 ⟨rfl, hH⟩
      have H3 := Aside0.mk hH
      clear hH H2
      go_wp2_with fail
      go_roundw
      case rel => exact Or.inr (Or.inr (Or.inl ⟨by go_num, H3.out⟩))
      case measure => simp [intOf]
    · have H1 := Aside0.mk h1
      have hcell : wr.cell? ⟨va, 2, none⟩ = some (.iface 106 (.int .u8 fl)) := by rw [Lib.cell_of_heap (h1.stays va _ HVA.out hvne.1 hvne.2 (by intro c fz hc; cases hc))]; rfl
      clear h1
      go_wp2_with fail
      refine (valueOf_F (fl : Int) _).mono ?_
      rintro r w2 ⟨rfl, hb2⟩
      have H2 := Aside0.mk (H1.out.old hb2)
      clear hb2 hcell H1
      go_wp2_with fail
      refine (hd_F fl hfl H2.out (by simp)).mono ?_
      rintro r w3 ⟨rfl, hH⟩
      have H3 := Aside0.mk hH
      clear hH H2
      go_wp2_with fail
      go_roundw
      case rel => exact Or.inr (Or.inr (Or.inr (Or.inl ⟨by go_num, H3.out⟩)))
      case measure => simp [intOf]
    · have H1 := Aside0.mk h1
      have hcell : wr.cell? ⟨va, 3, none⟩ = some (.iface 5 (.int .u8 1)) := by rw [Lib.cell_of_heap (h1.stays va _ HVA.out hvne.1 hvne.2 (by intro c fz hc; cases hc))]; rfl
      clear h1
      go_wp2_with fail
      refine (valueOf_121 (.int .u8 1) _).mono ?_
      rintro r w2 ⟨rfl, hb2⟩
      have H2 := Aside0.mk (H1.out.old hb2)
      clear hb2 hcell H1
      go_wp2_with fail
      refine (hd_y 1 (by decide) H2.out (by simp)).mono ?_
      rintro r w3 ⟨rfl, hH⟩
      have H3 := Aside0.mk hH
      clear hH H2
      go_wp2_with fail
      go_roundw
      case rel => exact Or.inr (Or.inr (Or.inr (Or.inr (Or.inl ⟨by go_num, H3.out⟩))))
      case measure => simp [intOf]
    · have H1 := Aside0.mk h1
      have hcell : wr.cell? ⟨va, 4, none⟩ = some (.iface 36 (.int .u32 0)) := by rw [Lib.cell_of_heap (h1.stays va _ HVA.out hvne.1 hvne.2 (by intro c fz hc; cases hc))]; rfl
      clear h1
      go_wp2_with fail
      refine (valueOf_117 (.int .u32 0) _).mono ?_
      rintro r w2 ⟨rfl, hb2⟩
      have H2 := Aside0.mk (H1.out.old hb2)
      clear hb2 hcell H1
      go_wp2_with fail
      refine (hd_u big 0 (by decide) H2.out (by simp) (by simp)).mono ?_
      rintro r w3 ⟨rfl, hH⟩
      have H3 := Aside0.mk hH
      clear hH H2
      go_wp2_with fail
      go_roundw
      case rel => exact Or.inr (Or.inr (Or.inr (Or.inr (Or.inr (Or.inl ⟨by go_num, H3.out⟩)))))
      case measure => simp [intOf]
    · have H1 := Aside0.mk h1
      have hcell : wr.cell? ⟨va, 5, none⟩ = some (.iface 36 (.int .u32 s)) := by rw [Lib.cell_of_heap (h1.stays va _ HVA.out hvne.1 hvne.2 (by intro c fz hc; cases hc))]; rfl
      clear h1
      go_wp2_with fail
      refine (valueOf_117 (.int .u32 s) _).mono ?_
      rintro r w2 ⟨rfl, hb2⟩
      have H2 := Aside0.mk (H1.out.old hb2)
      clear hb2 hcell H1
      go_wp2_with fail
      refine (hd_u big s hs H2.out (by simp [cntBytes_length]) (by simp [cntBytes_length])).mono ?_
      rintro r w3 ⟨rfl, hH⟩
      have H3 := Aside0.mk hH
      clear hH H2
      go_wp2_with fail
      go_roundw
      case rel => exact Or.inr (Or.inr (Or.inr (Or.inr (Or.inr (Or.inr (Or.inl ⟨by go_num, H3.out⟩))))))
      case measure => simp [intOf]
    · have H1 := Aside0.mk h1
      have hcell : wr.cell? ⟨va, 6, none⟩ = some (.iface 162 (.pointer (some ⟨p, 0, none⟩))) := by rw [Lib.cell_of_heap (h1.stays va _ HVA.out hvne.1 hvne.2 (by intro c fz hc; cases hc))]; rfl
      have hp0 : wr.cell? ⟨p, 0, none⟩ = some (.string ⟨#[40, 121, 118, 41]⟩) := by rw [Lib.cell_of_heap (h1.stays p _ HP.out hpne.1 hpne.2 (by intro c fz hc; cases hc))]; rfl
      clear h1
      go_wp2_with fail
      refine (valueOf_l p _ hp0).mono ?_
      rintro r w2 ⟨rfl, hb2⟩
      have H2 := Aside0.mk (H1.out.old hb2)
      clear hb2 hcell H1 hp0
      obtain ⟨gg, hgg, hS⟩ := H2.out.ex
      have hp1 : w2.cell? ⟨p, 1, none⟩ = some (.slice (some ⟨g, 0, none⟩) L.length k) := by rw [Lib.cell_of_heap (H2.out.stays p _ HP.out hpne.1 hpne.2 (by intro c fz hc; cases hc))]; rfl
      have HC := Aside0.mk (enc_hdr big B e b gg p g k fo fl1 fc (headBytes big v0 t fl s) L xs w2 hBe (by have := H2.out.below.size; omega) (by have := H2.out.enc; simpa [headBytes, cntBytes_length] using this) hS (by simp [headBytes, cntBytes_length]) hp1 hn2 HL.out (HR.out.stays H2.out.stays HE.out HBK.out))
      clear hS hp1
      go_wp2_with fail
      refine (HC.out).mono ?_
      rintro r w3 ⟨rfl, hE3⟩
      have H3 : Aside0 (Eg wA w3 B e b (ordOf big) (.slice fo fl1 fc) (16 + (hdrBytes big L).length) (headBytes big v0 t fl s ++ cntBytes big (hdrBytes big L).length ++ hdrBytes big L)) := ⟨hE3.ef, H2.out.below.trans hE3.below, H2.out.stays.trans hE3.stays⟩
      clear hE3 HC H2
      go_wp2_with fail
      go_roundw
      case rel => exact Or.inr (Or.inr (Or.inr (Or.inr (Or.inr (Or.inr (Or.inr (⟨by go_num, H3.out⟩)))))))
      case measure => simp [intOf]
    · have H1 := Aside0.mk h1
      have hr7 := h1.stays w.heap.size _ HRA.out (by omega) (by omega) (by intro c fz hc; cases hc)
      have c4 : wr.cell? ⟨w.heap.size, 0, none⟩ = some .nilIface := by rw [Lib.cell_of_heap hr7]; rfl
      have f4 : wr.frozen? ⟨w.heap.size, 0, none⟩ = false := Lib.frozen_of_heap hr7 0
      have hown := set_own hr7
      clear h1 hr7
      go_wp2_with fail
      refine leaves_cons (f := 35) (args := #[.pointer (some ⟨w.heap.size, 0, none⟩)]) (by simp) (by simp [go_sem]) ?_
      refine (en_idle7 ⟨w.heap.size, 0, none⟩ _).mono ?_
      rintro r u' w'' ⟨rfl, rfl, rfl⟩
      simp [Leaves, settle, results, Tryz.results26, go_sem, c4]
      rw [← List.append_assoc]
      exact ⟨H1.out.ef, (HBA.out.mono hBw).trans H1.out.below, ((Stays.refl e b w).old HBA.out).trans H1.out.stays⟩
end Go.Proofs.YtldjigfnagfalaaGreatDoor.Given
end
section
namespace Go.Proofs.YtldjigfnagfalaaGreatDoor.Given
open Go.RowKit Go.Proofs.YtldjigfnagfalaaGreatDoorW.PrintWords
set_option linter.unusedVariables false
inductive HV where
  | path (S : ByteArray)
  | str (S : ByteArray)
  | num (v : Nat)
def HV.T : HV → TypeId
  | .path _ => 135
  | .str _ => 9
  | .num _ => 36
def HV.y : HV → Value
  | .path S => .string S
  | .str S => .string S
  | .num v => .int .u32 v
def HV.sig : HV → ByteArray
  | .path _ => ⟨#[111]⟩
  | .str _ => ⟨#[115]⟩
  | .num _ => ⟨#[117]⟩
def HV.fb : HV → Bool → Nat → List UInt8
  | .path S, big => textBytes big S
  | .str S, big => textBytes big S
  | .num v, big => u32Bytes big v
def HV.Fine : HV → Prop
  | .path S => Plain S ∧ IsPath.f S = some true
  | .str S => Plain S
  | .num v => v < 4294967296
def HV.cell (v : HV) : Value := .agg #[.string v.sig, .iface v.T v.y]
def hf (p : Nat × HV) : HF := ⟨p.1, p.2.sig, p.2.T, p.2.y, p.2.sig, p.2.fb⟩
theorem hf_ok (p : Nat × HV) (hc : p.1 < 256) (hv : p.2.Fine) : (hf p).Ok := by
  obtain ⟨c, v⟩ := p
  refine ⟨hc, by cases v <;> exact (show (1 : Nat) ≤ 200 by decide), fun big w0 => ?_, ?_, fun big q => ?_⟩
  · cases v with
    | path S => exact encV_o w0 big S hv.1 hv.2
    | str S => exact encV_s w0 big S hv
    | num v => exact encV_u w0 big v hv
  · cases v with
    | path S => exact fun w => valueOf_o S w
    | str S => exact fun w => valueOf_s S w
    | num v => exact fun w => valueOf_117 _ w
  · have h4 := pd_lt (n := 4) (a := q) (by decide)
    cases v with
    | path S =>
      have := hv.1.short
      show (textBytes big S q).length ≤ 1000
      rw [textBytes_len]; omega
    | str S =>
      have := hv.short
      show (textBytes big S q).length ≤ 1000
      rw [textBytes_len]; omega
    | num v =>
      show (u32Bytes big v q).length ≤ 1000
      rw [u32Bytes_len]; omega
structure MapIs (w : World) (r : Nat) (F : List (Nat × HV)) : Prop where
  ex : ∃ (es : Array MapEntry) (clock : Nat), w.heap[r]? = some (.map es clock) ∧ MapKept.Stamped es clock ∧ es.toList.map (fun e => (e.key, e.val)) = F.map (fun x => (Value.int .u8 (x.1 : Int), x.2.cell))
theorem MapIs.old {w w' : World} {r : Nat} {F : List (Nat × HV)} (h : MapIs w r F) (hb : w'.heap[r]? = w.heap[r]?) : MapIs w' r F := by
  obtain ⟨es, clock, h1, h2⟩ := h.ex
  exact ⟨es, clock, hb.trans h1, h2⟩
theorem MapIs.lt {w : World} {r : Nat} {F : List (Nat × HV)} (h : MapIs w r F) : r < w.heap.size := by
  obtain ⟨es, clock, h1, h2⟩ := h.ex
  exact Lib.lt_of_heap h1
theorem u107 : Tryz.prog.underlying 107 = some (.map 115 113) := by kernel_rfl
theorem u115 : Tryz.prog.underlying 115 = some (.int .u8) := by kernel_rfl
theorem MapIs.isKey {es : Array MapEntry} {F : List (Nat × HV)} (h : es.toList.map (fun e => (e.key, e.val)) = F.map (fun x => (Value.int .u8 (x.1 : Int), x.2.cell))) : ∀ x ∈ es.toList, MapKept.IsKey (.int .u8) x.key := by
  intro x hx
  have := List.mem_map_of_mem (f := fun e : MapEntry => (e.key, e.val)) hx
  rw [h] at this
  obtain ⟨y, hy, he⟩ := List.mem_map.1 this
  have hk : x.key = .int .u8 (y.1 : Int) := (congrArg Prod.fst he).symm
  rw [hk]
  exact rfl
theorem MapIs.lookup_some {w : World} {r : Nat} {F : List (Nat × HV)} (h : MapIs w r F) (c : Nat) (v : HV) (hm : (c, v) ∈ F) (hd : ∀ v', (c, v') ∈ F → v' = v) (k : Int) (hk : k = c) :
    (Instr.lookup 107 (.map (some r)) (.int .u8 k) true).run Tryz.prog w = .ok (.tuple #[v.cell, .bool true]) w := by
  subst hk
  obtain ⟨es, clock, hb, hs, he⟩ := h.ex
  have hkey : MapKept.IsKey (.int .u8) (.int .u8 (c : Int)) := rfl
  rcases MapKept.findNow_spec hkey es.toList 0 (MapIs.isKey he) with ⟨h1, h2⟩ | ⟨j, e, h1, h2, h3⟩
  · exfalso
    have := List.mem_map_of_mem (f := fun x : Nat × HV => (Value.int .u8 (x.1 : Int), x.2.cell)) hm
    rw [← he] at this
    obtain ⟨x, hx, hx2⟩ := List.mem_map.1 this
    exact h2 x hx (congrArg Prod.fst hx2)
  · have hv : e.val = v.cell := by
      have := List.mem_map_of_mem (f := fun e : MapEntry => (e.key, e.val)) (List.mem_of_getElem? h2)
      rw [he] at this
      obtain ⟨y, hy, hye⟩ := List.mem_map.1 this
      have h4 : Value.int .u8 (y.1 : Int) = .int .u8 (c : Int) := (congrArg Prod.fst hye).trans h3
      have h5 : y.1 = c := by injection h4 with _ h6; omega
      have h6 := hd y.2 (by rw [← h5]; exact hy)
      rw [← h6]
      exact (congrArg Prod.snd hye).symm
    simp [Instr.lookup, run_underlying u107, MapKept.run_getObj_map hb, MapKept.run_checkKey u115 hkey, MapKept.run_findKey u115 h1, hv, Result.andThen]
theorem MapIs.lookup_none {w : World} {r : Nat} {F : List (Nat × HV)} (h : MapIs w r F) (c : Nat) (hm : ∀ v, (c, v) ∉ F) (k : Int) (hk : k = c) :
    (Instr.lookup 107 (.map (some r)) (.int .u8 k) true).run Tryz.prog w = .ok (.tuple #[.agg #[.string ⟨#[]⟩, .nilIface], .bool false]) w := by
  subst hk
  obtain ⟨es, clock, hb, hs, he⟩ := h.ex
  have hkey : MapKept.IsKey (.int .u8) (.int .u8 (c : Int)) := rfl
  rcases MapKept.findNow_spec hkey es.toList 0 (MapIs.isKey he) with ⟨h1, h2⟩ | ⟨j, e, h1, h2, h3⟩
  · simp [Instr.lookup, run_underlying u107, MapKept.run_getObj_map hb, MapKept.run_checkKey u115 hkey, MapKept.run_findKey u115 h1, Result.andThen]
  · exfalso
    have := List.mem_map_of_mem (f := fun e : MapEntry => (e.key, e.val)) (List.mem_of_getElem? h2)
    rw [he] at this
    obtain ⟨y, hy, hye⟩ := List.mem_map.1 this
    have h4 : Value.int .u8 (y.1 : Int) = .int .u8 (c : Int) := (congrArg Prod.fst hye).trans h3
    have h5 : y.1 = c := by injection h4 with _ h6; omega
    exact hm y.2 (by rw [← h5]; exact hy)
theorem MapIs.update {w : World} {r : Nat} {F : List (Nat × HV)} (h : MapIs w r F) (c : Nat) (v : HV) (hm : ∀ v', (c, v') ∉ F) (k : Int) (hk : k = c) :
    ∃ es clock, (Instr.mapUpdate 107 (.map (some r)) (.int .u8 k) v.cell).run Tryz.prog w = .ok () { w with heap := w.heap.setIfInBounds r (.map es clock) } ∧ MapIs { w with heap := w.heap.setIfInBounds r (.map es clock) } r (F ++ [(c, v)]) := by
  subst hk
  obtain ⟨es, clock, hb, hs, he⟩ := h.ex
  have hkey : MapKept.IsKey (.int .u8) (.int .u8 (c : Int)) := rfl
  rcases MapKept.findNow_spec hkey es.toList 0 (MapIs.isKey he) with ⟨h1, h2⟩ | ⟨j, e, h1, h2, h3⟩
  · refine ⟨es.push { key := .int .u8 (c : Int), val := v.cell, born := clock }, clock + 1, ?_, ⟨_, _, (MapKept.heap_set hb).1, MapKept.stamped_push hs h2, ?_⟩⟩
    · simp [Instr.mapUpdate, run_underlying u107, MapKept.run_getObj_map hb, MapKept.run_checkKey u115 hkey, MapKept.run_findKey u115 h1, MapKept.run_setObj_map _ hb, Result.andThen]
    · rw [Array.toList_push, List.map_append, List.map_append, he]
      rfl
  · exfalso
    have := List.mem_map_of_mem (f := fun e : MapEntry => (e.key, e.val)) (List.mem_of_getElem? h2)
    rw [he] at this
    obtain ⟨y, hy, hye⟩ := List.mem_map.1 this
    have h4 : Value.int .u8 (y.1 : Int) = .int .u8 (c : Int) := (congrArg Prod.fst hye).trans h3
    have h5 : y.1 = c := by injection h4 with _ h6; omega
    exact hm y.2 (by rw [← h5]; exact hy)
end Go.Proofs.YtldjigfnagfalaaGreatDoor.Given
end

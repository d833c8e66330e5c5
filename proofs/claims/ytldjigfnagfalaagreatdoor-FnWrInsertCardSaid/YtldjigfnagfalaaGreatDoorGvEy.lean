/- (*encoder).encode of a byte. -/
import Derived.Test.YtldjigfnagfalaaGreatDoorGvAl
import Derived.Test.YtldjigfnagfalaaGreatDoorGvZv
namespace Go.Proofs.YtldjigfnagfalaaGreatDoor.Given
open Go.RowKit Go.Proofs.YtldjigfnagfalaaGreatDoorW.PrintWords
set_option linter.unusedVariables false
attribute [local go_sem] me_write
theorem new_lt' {w w1 : World} {o : Obj} (hb : Below (w.alloc o).heap.size (w.alloc o) w1) : w.heap.size < w1.heap.size := by
  have := hb.size
  simp at this
  omega

set_option maxHeartbeats 8000000 in
set_option maxRecDepth 100000 in
theorem en_121 (e b v : Nat) (hv : v < 256) (q dep : Int) (hd0 : 0 ≤ dep) (hd : dep ≤ 64) (hq0 : 0 ≤ q) (hq1 : q < 4611686018427387904) (R : World → Prop) (w : World)
    (c0 : w.cell? ⟨e, 0, none⟩ = some (.iface 71 (.pointer (some ⟨b, 0, none⟩)))) (c3 : w.cell? ⟨e, 3, none⟩ = some (.int .i64 q)) (HW : Takes w b [UInt8.ofNat v] R)
    (hR : ∀ w', R w' → w'.cell? ⟨e, 3, none⟩ = some (.int .i64 q) ∧ w'.frozen? ⟨e, 3, none⟩ = false) :
    Calls Tryz.prog 36 #[.pointer (some ⟨e, 0, none⟩), .agg #[.iface 5 (.int .u8 v), .string ⟨#[121]⟩], .int .i64 dep] w fun r w' => r = .returned (.tuple #[]) ∧ ∃ w1, R w1 ∧ w' = w1.setCell ⟨e, 3, none⟩ (.int .i64 (q + 1)) := by
  have he := block_lt_of_cell c0
  have hw : wrap64 (q + 1) = q + 1 := by unfold wrap64; omega
  have hwv : IntKind.u8.wrap (v : Int) = v := by unfold IntKind.wrap; simp [IntKind.signed, IntKind.bits]; omega
  have hal : Tryz.prog.arrayLen 124 = 1 := by kernel_rfl
  have hel : Tryz.prog.elem 124 = 5 := by kernel_rfl
  have hsl : ∀ (g : Nat) (W : World), (Instr.sliceAt 124 (.pointer (some ⟨g, 0, none⟩)) none none none).run Tryz.prog W = .ok (.slice (some ⟨g, 0, none⟩) 1 1) W := fun g W => by kernel_rfl
  have HHW := Aside0.mk HW
  have HHR := Aside0.mk hR
  clear HW hR hal hel
  go_enter Tryz.func36, Tryz.ntmps36
  go_wp2_with (first
    | (go_at_call 43; refine (zType _ _ _).mono ?_; rintro r w1 ⟨rfl, hb1⟩; obtain ⟨hc1, hf1⟩ := bcell hb1; have hz1 : w.heap.size < w1.heap.size := new_lt' hb1; have B1 := below_step (w := w) (by repeat (first | assumption | exact Below.refl _ _ | apply below_alloc | apply below_drew)) hb1)
    | (go_at_call 42; refine (align_121 _).mono ?_; rintro r w2 ⟨rfl, rfl⟩)
    | (go_at_call 41; refine (align0 e q 1 hq0 hq1 (by decide) (Int.tmod_one q) _ ((B1.cell (p := ⟨e, 3, none⟩) he).trans c3)).mono ?_; rintro r w3 ⟨rfl, rfl⟩)
    | (go_at_call 44; refine (zKind_121 _ _).mono ?_; rintro r w4 ⟨rfl, hb4⟩; obtain ⟨hc4, hf4⟩ := bcell hb4; have hz4 : w.heap.size < w4.heap.size := Nat.lt_of_lt_of_le hz1 hb4.size; have B4 := below_step (w := w) (by repeat (first | assumption | exact Below.refl _ _ | apply below_alloc | apply below_drew)) hb4)
    | (go_at_call 45; refine (zNum_121 v (by omega) (by omega) _).mono ?_; rintro r w5 ⟨rfl, hb5⟩; obtain ⟨hc5, hf5⟩ := bcell hb5; have hz5 : w.heap.size < w5.heap.size := Nat.lt_of_lt_of_le hz4 (Nat.le_trans (by simp) hb5.size); have B5 := below_step (w := w) (by repeat (first | assumption | exact Below.refl _ _ | apply below_alloc | apply below_drew)) hb5)
    | fail)
  have hold : w5.cell? ⟨w4.heap.size, 0, none⟩ = some (.int .u8 0) := by rw [hc5 _ _ (by simp)]; simp
  have hcs : ∀ j x, (Lib.byteCells [UInt8.ofNat v])[j]? = some x → ((w5.setCell ⟨w4.heap.size, 0, none⟩ (.int .u8 v)).drew).cell? ((⟨w4.heap.size, 0, none⟩ : Addr).add j) = some x := by
    intro j x hj
    obtain ⟨hj1, hj2⟩ := List.getElem?_eq_some_iff.1 hj
    obtain rfl : j = 0 := by rw [Lib.byteCells_length] at hj1; simpa using hj1
    rw [Lib.addr_add, ← hj2]
    show (w5.setCell ⟨w4.heap.size, 0, none⟩ (.int .u8 v)).cell? ⟨w4.heap.size, 0, none⟩ = some (.int .u8 ((UInt8.ofNat v).toNat : Int))
    rw [World.cell?_setCell_same w5 _ _ hold, UInt8.toNat_ofNat', Nat.mod_eq_of_lt hv]
  have HW2 := Aside0.mk (HHW.out ((w5.setCell ⟨w4.heap.size, 0, none⟩ (.int .u8 v)).drew) w4.heap.size 1 (below_drew (B5.setCell (p := ⟨w4.heap.size, 0, none⟩) B4.size _)) B4.size hcs)
  have hne : w4.heap.size ≠ e := Nat.ne_of_gt (Nat.lt_of_lt_of_le he B4.size)
  have d0 : w5.cell? ⟨e, 0, none⟩ = some (.iface 71 (.pointer (some ⟨b, 0, none⟩))) := (B5.cell (p := ⟨e, 0, none⟩) he).trans c0
  have d1 : (w5.setCell ⟨w4.heap.size, 0, none⟩ (.int .u8 v)).cell? ⟨e, 0, none⟩ = some (.iface 71 (.pointer (some ⟨b, 0, none⟩))) := (World.cell?_setCell_far _ _ _ _ hne).trans d0
  clear hcs hold
  go_region_with (go_at_call 124; refine (HW2.out).mono ?_; rintro r w6 ⟨rfl, hr6⟩; have HR6 := Aside0.mk hr6; obtain ⟨p6, f6⟩ := HHR.out w6 hr6; clear hr6)
  all_goals
    go_wp2
    refine bodyPost_end (results_none (by rfl) _ _ _) rfl ⟨rfl, w6, HR6.out, rfl⟩
end Go.Proofs.YtldjigfnagfalaaGreatDoor.Given

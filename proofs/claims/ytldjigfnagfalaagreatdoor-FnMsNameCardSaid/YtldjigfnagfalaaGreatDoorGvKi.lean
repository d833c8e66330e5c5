/- Part of the proof of LawFnMsName. -/
import Derived.Test.YtldjigfnagfalaaGreatDoorGvHf
import Derived.Maps.RangeRun
import Derived.Test.YtldjigfnagfalaaGreatDoorWMore
set_option linter.unusedVariables false
set_option linter.unusedSimpArgs false
section
namespace Go.Proofs.YtldjigfnagfalaaGreatDoor.Given
open Go.RowKit Go.Proofs.YtldjigfnagfalaaGreatDoorW.PrintWords
set_option linter.unusedVariables false
def pa : ByteArray := ⟨#[47, 97]⟩
def ab : ByteArray := ⟨#[97, 46, 98]⟩
theorem pa_path : IsPath.f pa = some true := by kernel_rfl
theorem ab_iface : IsInterface.f ab = some true := by kernel_rfl
theorem pa_plain : Plain pa := ⟨by intro i hi; match i, hi with | 0, _ => exact (show ((47 : Nat) : Int) < 128 by decide) | 1, _ => exact (show ((97 : Nat) : Int) < 128 by decide), by intro i hi; match i, hi with | 0, _ => exact (show (47 : UInt8) ≠ 0 by decide) | 1, _ => exact (show (97 : UInt8) ≠ 0 by decide), by decide⟩
theorem ab_plain : Plain ab := ⟨by intro i hi; match i, hi with | 0, _ => exact (show ((97 : Nat) : Int) < 128 by decide) | 1, _ => exact (show ((46 : Nat) : Int) < 128 by decide) | 2, _ => exact (show ((98 : Nat) : Int) < 128 by decide), by intro i hi; match i, hi with | 0, _ => exact (show (97 : UInt8) ≠ 0 by decide) | 1, _ => exact (show (46 : UInt8) ≠ 0 by decide) | 2, _ => exact (show (98 : UInt8) ≠ 0 by decide), by decide⟩
def fieldsOf (t : Nat) (S : ByteArray) : List (Nat × HV) :=
  match t with
  | 1 => [(1, .path pa), (3, .str S)]
  | 2 => [(3, .str S), (5, .num 9)]
  | 3 => [(3, .str S), (4, .str ab), (5, .num 9)]
  | _ => [(1, .path pa), (2, .str ab), (3, .str S)]
theorem ftype_1 (w : World) : Calls Tryz.prog 95 #[.int .u8 1] w fun r w' => r = .returned (.string ⟨#[111]⟩) ∧ w = w' := by
  go_enter Tryz.func95, Tryz.ntmps95
  go_wp2
  go_ret
  exact ⟨rfl, rfl⟩
theorem ftype_2 (w : World) : Calls Tryz.prog 95 #[.int .u8 2] w fun r w' => r = .returned (.string ⟨#[115]⟩) ∧ w = w' := by
  go_enter Tryz.func95, Tryz.ntmps95
  go_wp2
  go_ret
  exact ⟨rfl, rfl⟩
theorem ftype_3 (w : World) : Calls Tryz.prog 95 #[.int .u8 3] w fun r w' => r = .returned (.string ⟨#[115]⟩) ∧ w = w' := by
  go_enter Tryz.func95, Tryz.ntmps95
  go_wp2
  go_ret
  exact ⟨rfl, rfl⟩
theorem ftype_4 (w : World) : Calls Tryz.prog 95 #[.int .u8 4] w fun r w' => r = .returned (.string ⟨#[115]⟩) ∧ w = w' := by
  go_enter Tryz.func95, Tryz.ntmps95
  go_wp2
  go_ret
  exact ⟨rfl, rfl⟩
theorem ftype_5 (w : World) : Calls Tryz.prog 95 #[.int .u8 5] w fun r w' => r = .returned (.string ⟨#[117]⟩) ∧ w = w' := by
  go_enter Tryz.func95, Tryz.ntmps95
  go_wp2
  go_ret
  exact ⟨rfl, rfl⟩
set_option maxHeartbeats 2000000 in
theorem need_1 (w : World) : Calls Tryz.prog 96 #[.int .u8 1] w fun r w' => r = .returned (.slice (some ⟨w.heap.size, 0, none⟩) 2 2) ∧ w' = w.alloc (.cells #[.int .u8 1, .int .u8 3] 115) := by
  go_enter Tryz.func96, Tryz.ntmps96
  go_wp2
  go_ret
  exact ⟨rfl, rfl⟩
set_option maxHeartbeats 2000000 in
theorem need_2 (w : World) : Calls Tryz.prog 96 #[.int .u8 2] w fun r w' => r = .returned (.slice (some ⟨w.heap.size, 0, none⟩) 1 1) ∧ w' = w.alloc (.cells #[.int .u8 5] 115) := by
  go_enter Tryz.func96, Tryz.ntmps96
  go_wp2
  go_ret
  exact ⟨rfl, rfl⟩
set_option maxHeartbeats 2000000 in
theorem need_3 (w : World) : Calls Tryz.prog 96 #[.int .u8 3] w fun r w' => r = .returned (.slice (some ⟨w.heap.size, 0, none⟩) 2 2) ∧ w' = w.alloc (.cells #[.int .u8 4, .int .u8 5] 115) := by
  go_enter Tryz.func96, Tryz.ntmps96
  go_wp2
  go_ret
  exact ⟨rfl, rfl⟩
set_option maxHeartbeats 2000000 in
theorem need_4 (w : World) : Calls Tryz.prog 96 #[.int .u8 4] w fun r w' => r = .returned (.slice (some ⟨w.heap.size, 0, none⟩) 3 3) ∧ w' = w.alloc (.cells #[.int .u8 1, .int .u8 2, .int .u8 3] 115) := by
  go_enter Tryz.func96, Tryz.ntmps96
  go_wp2
  go_ret
  exact ⟨rfl, rfl⟩
theorem iterSeen_of {w : World} {it : Nat} {a : Option Nat} {b : Nat} {s : Array Nat} {c : Nat} (h : w.heap[it]? = some (.mapIter a b s c)) : w.iterSeen it = s := by
  unfold World.iterSeen; rw [h]
structure Rg (w : World) (r clock it : Nat) (wr : World) : Prop where
  below : Below w.heap.size w wr
  iter : ∃ seen, wr.heap[it]? = some (.mapIter (some r) clock seen clock)
theorem below_block {n : Nat} {w wr : World} (h : Below n w wr) {b : Nat} (hb : n ≤ b) (o : Obj) : Below n w (Go.ChangeMaps.setBlock wr b o) :=
  h.trans ⟨rfl, rfl, rfl, by simp [Go.ChangeMaps.setBlock], fun k hk => by simp [Go.ChangeMaps.setBlock, show ¬ b = k by omega]⟩
theorem bl_step {n : Nat} {w W W' : World} (h : Below n w W) (hn : n ≤ w.heap.size) (hb : Below W.heap.size W W') : Below n w W' := h.trans (hb.mono (Nat.le_trans hn h.size))
theorem bl_alloc {n : Nat} {w W : World} (h : Below n w W) (hn : n ≤ w.heap.size) (o : Obj) : Below n w (W.alloc o) := h.alloc (Nat.le_trans hn h.size) o
end Go.Proofs.YtldjigfnagfalaaGreatDoor.Given
end
section
namespace Go.Proofs.YtldjigfnagfalaaGreatDoor.Given
open Go.RowKit Go.Proofs.YtldjigfnagfalaaGreatDoorW.PrintWords
set_option linter.unusedVariables false
theorem gs_idle (x : Nat) (S : ByteArray) (hS : S.size ≤ 255) (w : World) (c : w.cell? ⟨x, 0, none⟩ = some (.string S)) :
    CallsD Tryz.prog 104 #[.pointer (some ⟨x, 0, none⟩)] .returning w fun e u' w' => e = .returned (.tuple #[]) ∧ u' = .returning ∧ w' = w := by
  have hg : ¬ ((255 : Int) < (S.size : Int)) := by omega
  refine (callsD_of_wp (R := fun e w' => e = .returned (.tuple #[]) ∧ w' = w) Tryz.func104 rfl ?_).mono ?_
  · rw [show (#[Value.pointer (some ⟨x, 0, none⟩)] ++ Array.replicate (Tryz.f104.ntmps - (#[Value.pointer (some ⟨x, 0, none⟩)] : Array Value).size) undef) = #[.pointer (some ⟨x, 0, none⟩), undef, undef, undef, undef] from rfl]
    go_wp2
    refine bodyPost_end (results_none (by rfl) _ _ _) rfl ⟨rfl, rfl⟩
  · rintro e u' w' ⟨rfl, rfl, rfl⟩
    exact ⟨rfl, rfl, rfl⟩
set_option maxHeartbeats 2000000 in
theorem depthOk (x : Nat) (w : World) (h : w.heap[x]? = some (.cells #[.int .i64 0, .int .i64 0, .int .i64 0] 201)) : Calls Tryz.prog 103 #[.pointer (some ⟨x, 0, none⟩)] w fun r w' => r = .returned (.bool true) ∧ ∃ m, w' = w.drewN m := by
  have c0 : w.cell? ⟨x, 0, none⟩ = some (.int .i64 0) := by rw [Lib.cell_of_heap h]; rfl
  have c1 : w.cell? ⟨x, 1, none⟩ = some (.int .i64 0) := by rw [Lib.cell_of_heap h]; rfl
  have c2 : w.cell? ⟨x, 2, none⟩ = some (.int .i64 0) := by rw [Lib.cell_of_heap h]; rfl
  have d0 : decide ((0 : Int) ≤ 32) = true := rfl
  go_enter Tryz.func103, Tryz.ntmps103
  go_wp2_with fail
  go_ret
  exact ⟨rfl, 0, rfl⟩
set_option maxHeartbeats 8000000 in
set_option maxRecDepth 100000 in
theorem getSig_s (x : Nat) (w : World) (h : w.heap[x]? = some (.cells #[.int .i64 0, .int .i64 0, .int .i64 0] 201)) : Calls Tryz.prog 94 #[.string ⟨#[115]⟩, .pointer (some ⟨x, 0, none⟩)] w fun r w' => r = .returned (.string ⟨#[115]⟩) ∧ Below w.heap.size w w' := by
  have hmf : ∀ (fn : Fn) (first cap : Array Value) (w : World), (Instr.makeFunc fn first cap).run Tryz.prog w = .ok (.func fn first cap) w := fun _ _ _ _ => rfl
  have HX := Aside0.mk (boxed_block h ((Below.refl _ w).alloc (Nat.le_refl _) (.cells #[.string ⟨#[]⟩] 9)))
  clear h
  go_enter_defers Tryz.func94, Tryz.ntmps94
  go_wp2_with fail
  refine (depthOk x _ HX.out).mono ?_
  rintro r w1 ⟨rfl, m1, hw1⟩
  have hb1 : Below w.heap.size w w1 := hw1 ▸ below_drewN ((Below.refl _ w).alloc (Nat.le_refl _) _) m1
  have hr1 : w1.heap[w.heap.size]? = some (.cells #[.string ⟨#[]⟩] 9) := by rw [hw1]; exact heap_alloc_new w _
  clear hw1
  have c1 : w1.cell? ⟨w.heap.size, 0, none⟩ = some (.string ⟨#[]⟩) := by rw [Lib.cell_of_heap hr1]; rfl
  have f1 : w1.frozen? ⟨w.heap.size, 0, none⟩ = false := Lib.frozen_of_heap hr1 0
  go_wp2_with (go_at_call 81; refine (kindOf_s _).mono ?_; rintro r w2 ⟨rfl, rfl⟩)
  have e1 : (w1.setCell ⟨w.heap.size, 0, none⟩ (.string ⟨#[115]⟩)).cell? ⟨w.heap.size, 0, none⟩ = some (.string ⟨#[115]⟩) := World.cell?_setCell_same _ _ _ c1
  have hB : Below w.heap.size w (w1.setCell ⟨w.heap.size, 0, none⟩ (.string ⟨#[115]⟩)) := hb1.setCell (p := ⟨w.heap.size, 0, none⟩) (Nat.le_refl _) _
  refine leaves_cons (f := 104) (args := #[.pointer (some ⟨w.heap.size, 0, none⟩)]) (by simp) (by simp [go_sem]) ?_
  refine (gs_idle w.heap.size ⟨#[115]⟩ (show 1 ≤ 255 by decide) _ e1).mono ?_
  rintro r u' w'' ⟨rfl, rfl, rfl⟩
  simp [Leaves, settle, results, Tryz.results94, go_sem, e1]
  exact hB
set_option maxHeartbeats 8000000 in
set_option maxRecDepth 100000 in
theorem getSig_o (x : Nat) (w : World) (h : w.heap[x]? = some (.cells #[.int .i64 0, .int .i64 0, .int .i64 0] 201)) : Calls Tryz.prog 94 #[.string ⟨#[111]⟩, .pointer (some ⟨x, 0, none⟩)] w fun r w' => r = .returned (.string ⟨#[111]⟩) ∧ Below w.heap.size w w' := by
  have hmf : ∀ (fn : Fn) (first cap : Array Value) (w : World), (Instr.makeFunc fn first cap).run Tryz.prog w = .ok (.func fn first cap) w := fun _ _ _ _ => rfl
  have HX := Aside0.mk (boxed_block h ((Below.refl _ w).alloc (Nat.le_refl _) (.cells #[.string ⟨#[]⟩] 9)))
  clear h
  go_enter_defers Tryz.func94, Tryz.ntmps94
  go_wp2_with fail
  refine (depthOk x _ HX.out).mono ?_
  rintro r w1 ⟨rfl, m1, hw1⟩
  have hb1 : Below w.heap.size w w1 := hw1 ▸ below_drewN ((Below.refl _ w).alloc (Nat.le_refl _) _) m1
  have hr1 : w1.heap[w.heap.size]? = some (.cells #[.string ⟨#[]⟩] 9) := by rw [hw1]; exact heap_alloc_new w _
  clear hw1
  have c1 : w1.cell? ⟨w.heap.size, 0, none⟩ = some (.string ⟨#[]⟩) := by rw [Lib.cell_of_heap hr1]; rfl
  have f1 : w1.frozen? ⟨w.heap.size, 0, none⟩ = false := Lib.frozen_of_heap hr1 0
  go_wp2_with (go_at_call 81; refine (kindOf_o _).mono ?_; rintro r w2 ⟨rfl, rfl⟩)
  have e1 : (w1.setCell ⟨w.heap.size, 0, none⟩ (.string ⟨#[111]⟩)).cell? ⟨w.heap.size, 0, none⟩ = some (.string ⟨#[111]⟩) := World.cell?_setCell_same _ _ _ c1
  have hB : Below w.heap.size w (w1.setCell ⟨w.heap.size, 0, none⟩ (.string ⟨#[111]⟩)) := hb1.setCell (p := ⟨w.heap.size, 0, none⟩) (Nat.le_refl _) _
  refine leaves_cons (f := 104) (args := #[.pointer (some ⟨w.heap.size, 0, none⟩)]) (by simp) (by simp [go_sem]) ?_
  refine (gs_idle w.heap.size ⟨#[111]⟩ (show 1 ≤ 255 by decide) _ e1).mono ?_
  rintro r u' w'' ⟨rfl, rfl, rfl⟩
  simp [Leaves, settle, results, Tryz.results94, go_sem, e1]
  exact hB
set_option maxHeartbeats 8000000 in
set_option maxRecDepth 100000 in
theorem getSig_u (x : Nat) (w : World) (h : w.heap[x]? = some (.cells #[.int .i64 0, .int .i64 0, .int .i64 0] 201)) : Calls Tryz.prog 94 #[.string ⟨#[117]⟩, .pointer (some ⟨x, 0, none⟩)] w fun r w' => r = .returned (.string ⟨#[117]⟩) ∧ Below w.heap.size w w' := by
  have hmf : ∀ (fn : Fn) (first cap : Array Value) (w : World), (Instr.makeFunc fn first cap).run Tryz.prog w = .ok (.func fn first cap) w := fun _ _ _ _ => rfl
  have HX := Aside0.mk (boxed_block h ((Below.refl _ w).alloc (Nat.le_refl _) (.cells #[.string ⟨#[]⟩] 9)))
  clear h
  go_enter_defers Tryz.func94, Tryz.ntmps94
  go_wp2_with fail
  refine (depthOk x _ HX.out).mono ?_
  rintro r w1 ⟨rfl, m1, hw1⟩
  have hb1 : Below w.heap.size w w1 := hw1 ▸ below_drewN ((Below.refl _ w).alloc (Nat.le_refl _) _) m1
  have hr1 : w1.heap[w.heap.size]? = some (.cells #[.string ⟨#[]⟩] 9) := by rw [hw1]; exact heap_alloc_new w _
  clear hw1
  have c1 : w1.cell? ⟨w.heap.size, 0, none⟩ = some (.string ⟨#[]⟩) := by rw [Lib.cell_of_heap hr1]; rfl
  have f1 : w1.frozen? ⟨w.heap.size, 0, none⟩ = false := Lib.frozen_of_heap hr1 0
  go_wp2_with (go_at_call 81; refine (kindOf_117 _).mono ?_; rintro r w2 ⟨rfl, rfl⟩)
  have e1 : (w1.setCell ⟨w.heap.size, 0, none⟩ (.string ⟨#[117]⟩)).cell? ⟨w.heap.size, 0, none⟩ = some (.string ⟨#[117]⟩) := World.cell?_setCell_same _ _ _ c1
  have hB : Below w.heap.size w (w1.setCell ⟨w.heap.size, 0, none⟩ (.string ⟨#[117]⟩)) := hb1.setCell (p := ⟨w.heap.size, 0, none⟩) (Nat.le_refl _) _
  refine leaves_cons (f := 104) (args := #[.pointer (some ⟨w.heap.size, 0, none⟩)]) (by simp) (by simp [go_sem]) ?_
  refine (gs_idle w.heap.size ⟨#[117]⟩ (show 1 ≤ 255 by decide) _ e1).mono ?_
  rintro r u' w'' ⟨rfl, rfl, rfl⟩
  simp [Leaves, settle, results, Tryz.results94, go_sem, e1]
  exact hB
set_option maxHeartbeats 4000000 in
theorem sigOf_s (S : ByteArray) (g : Nat) (w : World) (c : w.cell? ⟨g, 0, none⟩ = some (.iface 9 (.string S))) : Calls Tryz.prog 76 #[.slice (some ⟨g, 0, none⟩) 1 1] w fun r w' => r = .returned (.agg #[.string ⟨#[115]⟩]) ∧ Below w.heap.size w w' := by
  have hlg := block_lt_of_cell c
  have HC := Aside0.mk c
  clear c
  go_enter Tryz.func76, Tryz.ntmps76
  go_wp2_with fail
  obtain ⟨wA, hwA⟩ : ∃ wA, w.alloc (.cells #[.string ⟨#[]⟩] 111) = wA := ⟨_, rfl⟩
  have hbA : Below w.heap.size w wA := hwA ▸ (Below.refl _ w).alloc (Nat.le_refl _) _
  have hrA : wA.heap[w.heap.size]? = some (.cells #[.string ⟨#[]⟩] 111) := hwA ▸ heap_alloc_new w _
  have HA := Aside0.mk hbA
  have HRA := Aside0.mk hrA
  clear hbA hrA
  go_loopw [3, 8] (fun s i wr => Aside0 (i = .int .i64 0 ∧ s = .string ⟨#[]⟩ ∧ wA = wr) ∨ Aside0 (i = .int .i64 1 ∧ s = .string ⟨#[115]⟩ ∧ Below w.heap.size w wr ∧ wr.heap[w.heap.size]? = some (.cells #[.string ⟨#[]⟩] 111))) (fun _ i _ => 1 - (intOf i).toNat)
  case atStart => exact Or.inl ⟨rfl, rfl, hwA.symm⟩
  case round =>
    clear hwA
    rcases hrel with ⟨rfl, rfl, rfl⟩ | ⟨rfl, rfl, hb, hr⟩
    · have cg : wA.cell? ⟨g, 0, none⟩ = some (.iface 9 (.string S)) := (HA.out.cell (p := ⟨g, 0, none⟩) hlg).trans HC.out
      go_wp2_with fail
      refine (typeOf_s S _).mono ?_
      rintro r w1 ⟨rfl, hb1⟩
      have HA := Aside0.mk (HA.out.trans (hb1.mono (by have := HA.out.size; omega)))
      have HRA := Aside0.mk (boxed_block HRA.out hb1)
      clear hb1 cg
      go_wp2_with fail
      refine (getSig_s w1.heap.size _ (heap_alloc_new w1 _)).mono ?_
      rintro r w2 ⟨rfl, hb2⟩
      have hbn := (Below.refl w1.heap.size w1).alloc (Nat.le_refl _) (.cells #[.int .i64 0, .int .i64 0, .int .i64 0] 201)
      have HRA := Aside0.mk (boxed_block (boxed_block HRA.out hbn) hb2)
      have HA := Aside0.mk ((HA.out.trans (hbn.mono (by have := HA.out.size; omega))).trans (hb2.mono (by have := HA.out.size; simp; omega)))
      clear hb2 hbn
      have hap : (⟨#[]⟩ : ByteArray) ++ ⟨#[115]⟩ = ⟨#[115]⟩ := rfl
      go_wp2_with fail
      go_roundw
      case rel => exact Or.inr ⟨by go_num, rfl, HA.out, HRA.out⟩
      case measure => simp [intOf]
    · have HB := Aside0.mk hb
      have c1 : wr.cell? ⟨w.heap.size, 0, none⟩ = some (.string ⟨#[]⟩) := by rw [Lib.cell_of_heap hr]; rfl
      have f1 : wr.frozen? ⟨w.heap.size, 0, none⟩ = false := Lib.frozen_of_heap hr 0
      clear hb hr
      go_wp2_with fail
      refine bodyPost_ret (v := .agg #[.string ⟨#[115]⟩]) (by simp [results, go_sem, c1]) rfl ⟨rfl, HB.out.setCell (p := ⟨w.heap.size, 0, none⟩) (Nat.le_refl _) _⟩
set_option maxHeartbeats 4000000 in
theorem mkVar_s (S : ByteArray) (w : World) : Calls Tryz.prog 39 #[.iface 9 (.string S)] w fun r w' => r = .returned (.agg #[.string ⟨#[115]⟩, .iface 9 (.string S)]) ∧ Below w.heap.size w w' := by
  have h75 : ∀ w, Calls Tryz.prog 75 #[.iface 9 (.string S), .agg #[.string ⟨#[115]⟩]] w fun r w' => r = .returned (.agg #[.string ⟨#[115]⟩, .iface 9 (.string S)]) ∧ Below w.heap.size w w' := fun w => by
    go_enter Tryz.func75, Tryz.ntmps75
    go_wp2_with fail
    refine bodyPost_ret (v := .agg #[.string ⟨#[115]⟩, .iface 9 (.string S)]) (by simp [results, go_sem]) rfl ⟨rfl, ?_⟩
    repeat (first | exact Below.refl _ _ | apply below_alloc)
  have H75 := Aside0.mk h75
  clear h75
  go_enter Tryz.func39, Tryz.ntmps39
  go_wp2_with fail
  obtain ⟨wB, hwB⟩ : ∃ wB, (w.alloc (.cells #[.string ⟨#[]⟩, .nilIface] 113)).alloc (.cells #[.iface 9 (.string S)] 20) = wB := ⟨_, rfl⟩
  have hbB : Below w.heap.size w wB := hwB ▸ below_alloc (below_alloc (Below.refl _ _) _) _
  have hrB : wB.heap[w.heap.size]? = some (.cells #[.string ⟨#[]⟩, .nilIface] 113) := by rw [← hwB, Below.heap_alloc _ _ _ (by simp)]; exact heap_alloc_new w _
  have hgB : wB.cell? ⟨w.heap.size + 1, 0, none⟩ = some (.iface 9 (.string S)) := by
    have h := heap_alloc_new (w.alloc (.cells #[.string ⟨#[]⟩, .nilIface] 113)) (.cells #[.iface 9 (.string S)] 20)
    rw [hwB, show (w.alloc (.cells #[.string ⟨#[]⟩, .nilIface] 113)).heap.size = w.heap.size + 1 by simp] at h
    rw [Lib.cell_of_heap h]; rfl
  have HS := Aside0.mk (sigOf_s S (w.heap.size + 1) wB hgB)
  rw [hwB]
  clear hwB hgB
  refine (HS.out).mono ?_
  rintro r w1 ⟨rfl, hb1⟩
  have hB1 := hbB.trans (hb1.mono hbB.size)
  have hr1 := boxed_block hrB hb1
  clear hb1 hrB hbB HS
  go_wp2_with fail
  refine (H75.out _).mono ?_
  rintro r w2 ⟨rfl, hb2⟩
  have hB2 := hB1.trans (hb2.mono hB1.size)
  have hr2 := boxed_block hr1 hb2
  obtain ⟨d0, f0⟩ : w2.cell? ⟨w.heap.size, 0, none⟩ = some (.string ⟨#[]⟩) ∧ w2.frozen? ⟨w.heap.size, 0, none⟩ = false := ⟨by rw [Lib.cell_of_heap hr2]; rfl, Lib.frozen_of_heap hr2 0⟩
  obtain ⟨d1, f1⟩ : w2.cell? ⟨w.heap.size, 1, none⟩ = some .nilIface ∧ w2.frozen? ⟨w.heap.size, 1, none⟩ = false := ⟨by rw [Lib.cell_of_heap hr2]; rfl, Lib.frozen_of_heap hr2 1⟩
  clear hb2 hB1 hr1 hr2 H75
  go_wp2_with fail
  refine bodyPost_ret (v := .agg #[.string ⟨#[115]⟩, .iface 9 (.string S)]) (by simp [results, go_sem, d0, d1]) rfl ⟨rfl, (hB2.setCell (p := ⟨w.heap.size, 0, none⟩) (Nat.le_refl _) _).setCell (p := ⟨w.heap.size, 1, none⟩) (Nat.le_refl _) _⟩
set_option maxHeartbeats 4000000 in
set_option maxRecDepth 100000 in
theorem doorIn_s (S : ByteArray) (N : Int) (A : Option Addr) (l c : Nat) (w : World) : Calls Tryz.prog 38 #[.agg #[.int .u8 115, .int .u64 N, .string S, .slice A l c]] w fun r w' => r = .returned (.iface 9 (.string S)) ∧ Below w.heap.size w w' := by
  go_enter Tryz.func38, Tryz.ntmps38
  go_wp2
  go_ret
  exact ⟨rfl, (Below.refl _ _).alloc (Nat.le_refl _) _⟩
set_option maxHeartbeats 4000000 in
theorem sigOf_o (S : ByteArray) (g : Nat) (w : World) (c : w.cell? ⟨g, 0, none⟩ = some (.iface 135 (.string S))) : Calls Tryz.prog 76 #[.slice (some ⟨g, 0, none⟩) 1 1] w fun r w' => r = .returned (.agg #[.string ⟨#[111]⟩]) ∧ Below w.heap.size w w' := by
  have hlg := block_lt_of_cell c
  have HC := Aside0.mk c
  clear c
  go_enter Tryz.func76, Tryz.ntmps76
  go_wp2_with fail
  obtain ⟨wA, hwA⟩ : ∃ wA, w.alloc (.cells #[.string ⟨#[]⟩] 111) = wA := ⟨_, rfl⟩
  have hbA : Below w.heap.size w wA := hwA ▸ (Below.refl _ w).alloc (Nat.le_refl _) _
  have hrA : wA.heap[w.heap.size]? = some (.cells #[.string ⟨#[]⟩] 111) := hwA ▸ heap_alloc_new w _
  have HA := Aside0.mk hbA
  have HRA := Aside0.mk hrA
  clear hbA hrA
  go_loopw [3, 8] (fun s i wr => Aside0 (i = .int .i64 0 ∧ s = .string ⟨#[]⟩ ∧ wA = wr) ∨ Aside0 (i = .int .i64 1 ∧ s = .string ⟨#[111]⟩ ∧ Below w.heap.size w wr ∧ wr.heap[w.heap.size]? = some (.cells #[.string ⟨#[]⟩] 111))) (fun _ i _ => 1 - (intOf i).toNat)
  case atStart => exact Or.inl ⟨rfl, rfl, hwA.symm⟩
  case round =>
    clear hwA
    rcases hrel with ⟨rfl, rfl, rfl⟩ | ⟨rfl, rfl, hb, hr⟩
    · have cg : wA.cell? ⟨g, 0, none⟩ = some (.iface 135 (.string S)) := (HA.out.cell (p := ⟨g, 0, none⟩) hlg).trans HC.out
      go_wp2_with fail
      refine (typeOf_o S _).mono ?_
      rintro r w1 ⟨rfl, hb1⟩
      have HA := Aside0.mk (HA.out.trans (hb1.mono (by have := HA.out.size; omega)))
      have HRA := Aside0.mk (boxed_block HRA.out hb1)
      clear hb1 cg
      go_wp2_with fail
      refine (getSig_o w1.heap.size _ (heap_alloc_new w1 _)).mono ?_
      rintro r w2 ⟨rfl, hb2⟩
      have hbn := (Below.refl w1.heap.size w1).alloc (Nat.le_refl _) (.cells #[.int .i64 0, .int .i64 0, .int .i64 0] 201)
      have HRA := Aside0.mk (boxed_block (boxed_block HRA.out hbn) hb2)
      have HA := Aside0.mk ((HA.out.trans (hbn.mono (by have := HA.out.size; omega))).trans (hb2.mono (by have := HA.out.size; simp; omega)))
      clear hb2 hbn
      have hap : (⟨#[]⟩ : ByteArray) ++ ⟨#[111]⟩ = ⟨#[111]⟩ := rfl
      go_wp2_with fail
      go_roundw
      case rel => exact Or.inr ⟨by go_num, rfl, HA.out, HRA.out⟩
      case measure => simp [intOf]
    · have HB := Aside0.mk hb
      have c1 : wr.cell? ⟨w.heap.size, 0, none⟩ = some (.string ⟨#[]⟩) := by rw [Lib.cell_of_heap hr]; rfl
      have f1 : wr.frozen? ⟨w.heap.size, 0, none⟩ = false := Lib.frozen_of_heap hr 0
      clear hb hr
      go_wp2_with fail
      refine bodyPost_ret (v := .agg #[.string ⟨#[111]⟩]) (by simp [results, go_sem, c1]) rfl ⟨rfl, HB.out.setCell (p := ⟨w.heap.size, 0, none⟩) (Nat.le_refl _) _⟩
set_option maxHeartbeats 4000000 in
theorem mkVar_o (S : ByteArray) (w : World) : Calls Tryz.prog 39 #[.iface 135 (.string S)] w fun r w' => r = .returned (.agg #[.string ⟨#[111]⟩, .iface 135 (.string S)]) ∧ Below w.heap.size w w' := by
  have h75 : ∀ w, Calls Tryz.prog 75 #[.iface 135 (.string S), .agg #[.string ⟨#[111]⟩]] w fun r w' => r = .returned (.agg #[.string ⟨#[111]⟩, .iface 135 (.string S)]) ∧ Below w.heap.size w w' := fun w => by
    go_enter Tryz.func75, Tryz.ntmps75
    go_wp2_with fail
    refine bodyPost_ret (v := .agg #[.string ⟨#[111]⟩, .iface 135 (.string S)]) (by simp [results, go_sem]) rfl ⟨rfl, ?_⟩
    repeat (first | exact Below.refl _ _ | apply below_alloc)
  have H75 := Aside0.mk h75
  clear h75
  go_enter Tryz.func39, Tryz.ntmps39
  go_wp2_with fail
  obtain ⟨wB, hwB⟩ : ∃ wB, (w.alloc (.cells #[.string ⟨#[]⟩, .nilIface] 113)).alloc (.cells #[.iface 135 (.string S)] 20) = wB := ⟨_, rfl⟩
  have hbB : Below w.heap.size w wB := hwB ▸ below_alloc (below_alloc (Below.refl _ _) _) _
  have hrB : wB.heap[w.heap.size]? = some (.cells #[.string ⟨#[]⟩, .nilIface] 113) := by rw [← hwB, Below.heap_alloc _ _ _ (by simp)]; exact heap_alloc_new w _
  have hgB : wB.cell? ⟨w.heap.size + 1, 0, none⟩ = some (.iface 135 (.string S)) := by
    have h := heap_alloc_new (w.alloc (.cells #[.string ⟨#[]⟩, .nilIface] 113)) (.cells #[.iface 135 (.string S)] 20)
    rw [hwB, show (w.alloc (.cells #[.string ⟨#[]⟩, .nilIface] 113)).heap.size = w.heap.size + 1 by simp] at h
    rw [Lib.cell_of_heap h]; rfl
  have HS := Aside0.mk (sigOf_o S (w.heap.size + 1) wB hgB)
  rw [hwB]
  clear hwB hgB
  refine (HS.out).mono ?_
  rintro r w1 ⟨rfl, hb1⟩
  have hB1 := hbB.trans (hb1.mono hbB.size)
  have hr1 := boxed_block hrB hb1
  clear hb1 hrB hbB HS
  go_wp2_with fail
  refine (H75.out _).mono ?_
  rintro r w2 ⟨rfl, hb2⟩
  have hB2 := hB1.trans (hb2.mono hB1.size)
  have hr2 := boxed_block hr1 hb2
  obtain ⟨d0, f0⟩ : w2.cell? ⟨w.heap.size, 0, none⟩ = some (.string ⟨#[]⟩) ∧ w2.frozen? ⟨w.heap.size, 0, none⟩ = false := ⟨by rw [Lib.cell_of_heap hr2]; rfl, Lib.frozen_of_heap hr2 0⟩
  obtain ⟨d1, f1⟩ : w2.cell? ⟨w.heap.size, 1, none⟩ = some .nilIface ∧ w2.frozen? ⟨w.heap.size, 1, none⟩ = false := ⟨by rw [Lib.cell_of_heap hr2]; rfl, Lib.frozen_of_heap hr2 1⟩
  clear hb2 hB1 hr1 hr2 H75
  go_wp2_with fail
  refine bodyPost_ret (v := .agg #[.string ⟨#[111]⟩, .iface 135 (.string S)]) (by simp [results, go_sem, d0, d1]) rfl ⟨rfl, (hB2.setCell (p := ⟨w.heap.size, 0, none⟩) (Nat.le_refl _) _).setCell (p := ⟨w.heap.size, 1, none⟩) (Nat.le_refl _) _⟩
set_option maxHeartbeats 4000000 in
set_option maxRecDepth 100000 in
theorem doorIn_o (S : ByteArray) (N : Int) (A : Option Addr) (l c : Nat) (w : World) : Calls Tryz.prog 38 #[.agg #[.int .u8 111, .int .u64 N, .string S, .slice A l c]] w fun r w' => r = .returned (.iface 135 (.string S)) ∧ Below w.heap.size w w' := by
  go_enter Tryz.func38, Tryz.ntmps38
  go_wp2
  go_ret
  exact ⟨rfl, (Below.refl _ _).alloc (Nat.le_refl _) _⟩
set_option maxHeartbeats 4000000 in
theorem sigOf_u (v : Int) (g : Nat) (w : World) (c : w.cell? ⟨g, 0, none⟩ = some (.iface 36 (.int .u32 v))) : Calls Tryz.prog 76 #[.slice (some ⟨g, 0, none⟩) 1 1] w fun r w' => r = .returned (.agg #[.string ⟨#[117]⟩]) ∧ Below w.heap.size w w' := by
  have hlg := block_lt_of_cell c
  have HC := Aside0.mk c
  clear c
  go_enter Tryz.func76, Tryz.ntmps76
  go_wp2_with fail
  obtain ⟨wA, hwA⟩ : ∃ wA, w.alloc (.cells #[.string ⟨#[]⟩] 111) = wA := ⟨_, rfl⟩
  have hbA : Below w.heap.size w wA := hwA ▸ (Below.refl _ w).alloc (Nat.le_refl _) _
  have hrA : wA.heap[w.heap.size]? = some (.cells #[.string ⟨#[]⟩] 111) := hwA ▸ heap_alloc_new w _
  have HA := Aside0.mk hbA
  have HRA := Aside0.mk hrA
  clear hbA hrA
  go_loopw [3, 8] (fun s i wr => Aside0 (i = .int .i64 0 ∧ s = .string ⟨#[]⟩ ∧ wA = wr) ∨ Aside0 (i = .int .i64 1 ∧ s = .string ⟨#[117]⟩ ∧ Below w.heap.size w wr ∧ wr.heap[w.heap.size]? = some (.cells #[.string ⟨#[]⟩] 111))) (fun _ i _ => 1 - (intOf i).toNat)
  case atStart => exact Or.inl ⟨rfl, rfl, hwA.symm⟩
  case round =>
    clear hwA
    rcases hrel with ⟨rfl, rfl, rfl⟩ | ⟨rfl, rfl, hb, hr⟩
    · have cg : wA.cell? ⟨g, 0, none⟩ = some (.iface 36 (.int .u32 v)) := (HA.out.cell (p := ⟨g, 0, none⟩) hlg).trans HC.out
      go_wp2_with fail
      refine (typeOf_117 _ _).mono ?_
      rintro r w1 ⟨rfl, hb1⟩
      have HA := Aside0.mk (HA.out.trans (hb1.mono (by have := HA.out.size; omega)))
      have HRA := Aside0.mk (boxed_block HRA.out hb1)
      clear hb1 cg
      go_wp2_with fail
      refine (getSig_u w1.heap.size _ (heap_alloc_new w1 _)).mono ?_
      rintro r w2 ⟨rfl, hb2⟩
      have hbn := (Below.refl w1.heap.size w1).alloc (Nat.le_refl _) (.cells #[.int .i64 0, .int .i64 0, .int .i64 0] 201)
      have HRA := Aside0.mk (boxed_block (boxed_block HRA.out hbn) hb2)
      have HA := Aside0.mk ((HA.out.trans (hbn.mono (by have := HA.out.size; omega))).trans (hb2.mono (by have := HA.out.size; simp; omega)))
      clear hb2 hbn
      have hap : (⟨#[]⟩ : ByteArray) ++ ⟨#[117]⟩ = ⟨#[117]⟩ := rfl
      go_wp2_with fail
      go_roundw
      case rel => exact Or.inr ⟨by go_num, rfl, HA.out, HRA.out⟩
      case measure => simp [intOf]
    · have HB := Aside0.mk hb
      have c1 : wr.cell? ⟨w.heap.size, 0, none⟩ = some (.string ⟨#[]⟩) := by rw [Lib.cell_of_heap hr]; rfl
      have f1 : wr.frozen? ⟨w.heap.size, 0, none⟩ = false := Lib.frozen_of_heap hr 0
      clear hb hr
      go_wp2_with fail
      refine bodyPost_ret (v := .agg #[.string ⟨#[117]⟩]) (by simp [results, go_sem, c1]) rfl ⟨rfl, HB.out.setCell (p := ⟨w.heap.size, 0, none⟩) (Nat.le_refl _) _⟩
set_option maxHeartbeats 4000000 in
theorem mkVar_u (v : Int) (w : World) : Calls Tryz.prog 39 #[.iface 36 (.int .u32 v)] w fun r w' => r = .returned (.agg #[.string ⟨#[117]⟩, .iface 36 (.int .u32 v)]) ∧ Below w.heap.size w w' := by
  have h75 : ∀ w, Calls Tryz.prog 75 #[.iface 36 (.int .u32 v), .agg #[.string ⟨#[117]⟩]] w fun r w' => r = .returned (.agg #[.string ⟨#[117]⟩, .iface 36 (.int .u32 v)]) ∧ Below w.heap.size w w' := fun w => by
    go_enter Tryz.func75, Tryz.ntmps75
    go_wp2_with fail
    refine bodyPost_ret (v := .agg #[.string ⟨#[117]⟩, .iface 36 (.int .u32 v)]) (by simp [results, go_sem]) rfl ⟨rfl, ?_⟩
    repeat (first | exact Below.refl _ _ | apply below_alloc)
  have H75 := Aside0.mk h75
  clear h75
  go_enter Tryz.func39, Tryz.ntmps39
  go_wp2_with fail
  obtain ⟨wB, hwB⟩ : ∃ wB, (w.alloc (.cells #[.string ⟨#[]⟩, .nilIface] 113)).alloc (.cells #[.iface 36 (.int .u32 v)] 20) = wB := ⟨_, rfl⟩
  have hbB : Below w.heap.size w wB := hwB ▸ below_alloc (below_alloc (Below.refl _ _) _) _
  have hrB : wB.heap[w.heap.size]? = some (.cells #[.string ⟨#[]⟩, .nilIface] 113) := by rw [← hwB, Below.heap_alloc _ _ _ (by simp)]; exact heap_alloc_new w _
  have hgB : wB.cell? ⟨w.heap.size + 1, 0, none⟩ = some (.iface 36 (.int .u32 v)) := by
    have h := heap_alloc_new (w.alloc (.cells #[.string ⟨#[]⟩, .nilIface] 113)) (.cells #[.iface 36 (.int .u32 v)] 20)
    rw [hwB, show (w.alloc (.cells #[.string ⟨#[]⟩, .nilIface] 113)).heap.size = w.heap.size + 1 by simp] at h
    rw [Lib.cell_of_heap h]; rfl
  have HS := Aside0.mk (sigOf_u v (w.heap.size + 1) wB hgB)
  rw [hwB]
  clear hwB hgB
  refine (HS.out).mono ?_
  rintro r w1 ⟨rfl, hb1⟩
  have hB1 := hbB.trans (hb1.mono hbB.size)
  have hr1 := boxed_block hrB hb1
  clear hb1 hrB hbB HS
  go_wp2_with fail
  refine (H75.out _).mono ?_
  rintro r w2 ⟨rfl, hb2⟩
  have hB2 := hB1.trans (hb2.mono hB1.size)
  have hr2 := boxed_block hr1 hb2
  obtain ⟨d0, f0⟩ : w2.cell? ⟨w.heap.size, 0, none⟩ = some (.string ⟨#[]⟩) ∧ w2.frozen? ⟨w.heap.size, 0, none⟩ = false := ⟨by rw [Lib.cell_of_heap hr2]; rfl, Lib.frozen_of_heap hr2 0⟩
  obtain ⟨d1, f1⟩ : w2.cell? ⟨w.heap.size, 1, none⟩ = some .nilIface ∧ w2.frozen? ⟨w.heap.size, 1, none⟩ = false := ⟨by rw [Lib.cell_of_heap hr2]; rfl, Lib.frozen_of_heap hr2 1⟩
  clear hb2 hB1 hr1 hr2 H75
  go_wp2_with fail
  refine bodyPost_ret (v := .agg #[.string ⟨#[117]⟩, .iface 36 (.int .u32 v)]) (by simp [results, go_sem, d0, d1]) rfl ⟨rfl, (hB2.setCell (p := ⟨w.heap.size, 0, none⟩) (Nat.le_refl _) _).setCell (p := ⟨w.heap.size, 1, none⟩) (Nat.le_refl _) _⟩
set_option maxHeartbeats 4000000 in
set_option maxRecDepth 100000 in
theorem doorIn_u (S : ByteArray) (N : Nat) (hN : N < 4294967296) (A : Option Addr) (l c : Nat) (w : World) : Calls Tryz.prog 38 #[.agg #[.int .u8 117, .int .u64 N, .string S, .slice A l c]] w fun r w' => r = .returned (.iface 36 (.int .u32 N)) ∧ Below w.heap.size w w' := by
  have hwv : IntKind.u32.wrap (N : Int) = N := by unfold IntKind.wrap; simp [IntKind.signed, IntKind.bits]; omega
  go_enter Tryz.func38, Tryz.ntmps38
  go_wp2
  go_ret
  exact ⟨rfl, (Below.refl _ _).alloc (Nat.le_refl _) _⟩
end Go.Proofs.YtldjigfnagfalaaGreatDoor.Given
end
section
namespace Go.Proofs.YtldjigfnagfalaaGreatDoor.Given
open Go.RowKit Go.Proofs.YtldjigfnagfalaaGreatDoorW.PrintWords Go.Proofs.YtldjigfnagfalaaGreatDoorW.PrintLast Go.Proofs.YtldjigfnagfalaaGreatDoorW.PrintMore
set_option linter.unusedVariables false
def ifv (x : TypeId × Value) : Value := .iface x.1 x.2
theorem ifv_one (x : TypeId × Value) : (ifv x).oneCell' = true := rfl
structure Kids (w : World) (base : Nat) (v : Value) (xs : List (TypeId × Value)) (L : List (Nat × HV)) : Prop where
  own : (Kd.scalar ifv ifv_one).R 20 w base (fun _ => True) v xs
  len : xs.length = L.length
  recs : ∀ (i : Nat) (x : Nat × HV), L[i]? = some x → ∃ (gr c : Nat), xs[i]? = some (158, .agg #[.slice (some ⟨gr, 0, none⟩) 2 c]) ∧ w.heap[gr]? = some (.cells #[.iface 5 (.int .u8 (x.1 : Int)), .iface 113 x.2.cell] 20) ∧ some gr ≠ v.ownBlock
theorem Kids.nil (w : World) (base : Nat) : Kids w base (.slice none 0 0) [] [] := ⟨Kd.R_nil _ _ _ _ _, rfl, fun i x h => by simp at h⟩
theorem Kids.below {w w' : World} {base : Nat} {v : Value} {xs : List (TypeId × Value)} {L : List (Nat × HV)} (h : Kids w base v xs L) (hb : Below w.heap.size w w') : Kids w' base v xs L :=
  ⟨Kd.R_below h.own hb, h.len, fun i x hi => by
    obtain ⟨gr, c, h1, h2, h3⟩ := h.recs i x hi
    exact ⟨gr, c, h1, boxed_block h2 hb, h3⟩⟩
theorem Kids.push {W W1 : World} {base : Nat} {v v1 : Value} {xs : List (TypeId × Value)} {L : List (Nat × HV)} (h : Kids W base v xs L) (x : Nat × HV) (gr c : Nat) (hgr : W.heap[gr]? = some (.cells #[.iface 5 (.int .u8 (x.1 : Int)), .iface 113 x.2.cell] 20)) (hne : some gr ≠ v.ownBlock)
    (ho : (Kd.scalar ifv ifv_one).R 20 W1 base (fun _ => True) v1 (xs ++ [(158, .agg #[.slice (some ⟨gr, 0, none⟩) 2 c])])) (hg : W.grownBy W1 v.ownBlock) (hat : v1.ownBlock = v.ownBlock ∨ ∃ b, v1.ownBlock = some b ∧ W.heap.size ≤ b) :
    Kids W1 base v1 (xs ++ [(158, .agg #[.slice (some ⟨gr, 0, none⟩) 2 c])]) (L ++ [x]) := by
  have hk : ∀ (g : Nat) (cs : Array Value), W.heap[g]? = some (.cells cs 20) → some g ≠ v.ownBlock → W1.heap[g]? = some (.cells cs 20) ∧ some g ≠ v1.ownBlock := fun g cs h1 h2 => by
    refine ⟨blk_grown h1 hg h2, ?_⟩
    rcases hat with e | ⟨b, e, hb⟩
    · rw [e]; exact h2
    · rw [e]
      intro hx
      have := Lib.lt_of_heap h1
      have := Option.some.inj hx
      omega
  refine ⟨ho, by rw [List.length_append, List.length_append, h.len]; rfl, fun i y hi => ?_⟩
  rcases Nat.lt_or_ge i L.length with hlt | hge
  · rw [List.getElem?_append_left hlt] at hi
    obtain ⟨g2, c2, h1, h2, h3⟩ := h.recs i y hi
    obtain ⟨h4, h5⟩ := hk g2 _ h2 h3
    exact ⟨g2, c2, by rw [List.getElem?_append_left (by rw [h.len]; exact hlt)]; exact h1, h4, h5⟩
  · rw [List.getElem?_append_right hge] at hi
    obtain ⟨hi1, hi2⟩ := List.getElem?_eq_some_iff.1 hi
    obtain rfl : i = L.length := by simp at hi1; omega
    have : x = y := by simpa using hi2
    subst this
    obtain ⟨h4, h5⟩ := hk gr _ hgr hne
    exact ⟨gr, c, by rw [List.getElem?_append_right (by rw [h.len]; exact Nat.le_refl _), h.len]; simp, h4, h5⟩
theorem Kids.recsIn {w : World} {base : Nat} {v : Value} {xs : List (TypeId × Value)} {L : List (Nat × HV)} (h : Kids w base v xs L) (hL : L ≠ []) : ∃ g k, v = .slice (some ⟨g, 0, none⟩) L.length k ∧ RecsIn w g (xs.map ifv) (L.map hf) := by
  have hown := Kd.own_of_R h.own
  rcases hown.2 with ⟨-, h0⟩ | ⟨g, cap, cur, hv, hBg, hg, hnc, hcm, hcs, htk⟩
  · exfalso
    have h1 := h.len
    exact hL (List.length_eq_zero_iff.1 (by omega))
  · refine ⟨g, cap, by rw [hv, h.len], ⟨cur, (0, 0), hg, fun i x hx => ?_⟩, by rw [List.length_map, List.length_map, h.len], fun i x hx => ?_⟩
    · have hj : (encs ifv xs)[i]? = some x := hx
      rw [← htk] at hj
      obtain ⟨h1, h2⟩ := List.getElem?_eq_some_iff.1 hj
      rw [List.getElem_take] at h2
      rw [← h2]
      rw [List.length_take] at h1
      have : i < cur.size := by have h3 := Array.length_toList (xs := cur); omega
      rw [Array.getElem?_eq_getElem this]
      simp
    · rw [List.getElem?_map] at hx
      obtain ⟨y, hy, rfl⟩ := Option.map_eq_some_iff.1 hx
      obtain ⟨gr, c, h1, h2, h3⟩ := h.recs i y hy
      exact ⟨gr, c, _, _, by rw [List.getElem?_map, h1]; rfl, h2, rfl, rfl⟩
set_option maxHeartbeats 1000000 in
theorem newEnc0 (b : Nat) (T : TypeId) (ao : Option Addr) (l c : Nat) (w : World) :
    Calls Tryz.prog 79 #[.iface 71 (.pointer (some ⟨b, 0, none⟩)), .iface T (.agg #[]), .slice ao l c] w fun r w' => r = .returned (.pointer (some ⟨w.heap.size, 0, none⟩)) ∧ w' = w.alloc (.cells #[.iface 71 (.pointer (some ⟨b, 0, none⟩)), .slice ao l c, .iface T (.agg #[]), .int .i64 0] 94) := by
  go_enter Tryz.func79, Tryz.ntmps79
  go_wp2_with (go_at_call 24; refine (newEnc _ _ _ _ _ _ _).mono ?_; rintro r w1 ⟨rfl, rfl⟩)
  go_ret
  exact ⟨rfl, rfl⟩
theorem mk0 (W : World) : (Instr.makeSlice 92 (.int .i64 0) (.int .i64 0)).run Tryz.prog W = .ok (.slice (some ⟨W.heap.size, 0, none⟩) 0 0) (W.alloc (.cells #[] 3)) := by kernel_rfl
set_option maxHeartbeats 1000000 in
theorem bytes0 (b : Nat) (w : World) (hbk : w.heap[b]? = some (.cells #[.slice none 0 0, .int .i64 0, .int .i8 0] 68)) :
    Calls Tryz.prog 80 #[.pointer (some ⟨b, 0, none⟩)] w fun r w' => (∃ c, r = .returned (.slice none 0 c)) ∧ ∃ m, w' = w.drewN m := by
  have c0 : w.cell? ⟨b, 0, none⟩ = some (.slice none 0 0) := by rw [Lib.cell_of_heap hbk]; rfl
  have c1 : w.cell? ⟨b, 1, none⟩ = some (.int .i64 0) := by rw [Lib.cell_of_heap hbk]; rfl
  go_enter Tryz.func80, Tryz.ntmps80
  go_wp2_with fail
  go_quiet (fail)
  go_wp2_with fail
  go_ret
  exact ⟨⟨_, rfl⟩, _, rfl⟩
end Go.Proofs.YtldjigfnagfalaaGreatDoor.Given
end

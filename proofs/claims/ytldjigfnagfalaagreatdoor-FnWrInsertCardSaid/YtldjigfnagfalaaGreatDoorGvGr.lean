/- (*bytes.Buffer).grow of an empty buffer by a few bytes: the worlds as they are. -/
import Derived.Test.YtldjigfnagfalaaGreatDoorGvSt
import Derived.Test.YtldjigfnagfalaaGreatDoorGvZv
namespace Go.Proofs.YtldjigfnagfalaaGreatDoor.Given
open Go.RowKit Go.Proofs.YtldjigfnagfalaaGreatDoorW.PrintWords
set_option linter.unusedVariables false
theorem mk4_64 (W : World) : (Instr.makeSlice 24 (.int .i64 4) (.int .i64 64)).run Tryz.prog W = .ok (.slice (some ⟨W.heap.size, 0, none⟩) 4 64) (W.alloc (.cells (Array.replicate 64 (.int .u8 0)) 5)) := by kernel_rfl
theorem eq_nil24 (W : World) : (binOp BinOp.eql 24 (.slice none 0 0) (.slice none 0 0)).run Tryz.prog W = .ok (.bool true) W := by kernel_rfl
attribute [local go_sem] mk4_64 eq_nil24
set_option maxHeartbeats 4000000 in
theorem tryGrow_none4 (b : Nat) (w : World) (c0 : w.cell? ⟨b, 0, none⟩ = some (.slice none 0 0)) : Calls Tryz.prog 125 #[.pointer (some ⟨b, 0, none⟩), .int .i64 4] w fun e w' => e = .returned (.tuple #[.int .i64 0, .bool false]) ∧ w = w' := by
  go_enter Tryz.func125, Tryz.ntmps125
  go_wp2
  go_ret2
  exact ⟨rfl, rfl⟩
set_option maxHeartbeats 4000000 in
set_option maxRecDepth 100000 in
theorem grow4 (B b : Nat) (lr : Int) (w : World) (hI : Lib.IsBuffer 68 5 B b [] w) (hbk : w.heap[b]? = some (.cells #[.slice none 0 0, .int .i64 0, .int .i8 lr] 68 (0, 0))) : Calls Tryz.prog 126 #[.pointer (some ⟨b, 0, none⟩), .int .i64 4] w fun e w' => e = .returned (.int .i64 0) ∧ ∃ k, w' = ((w.drewN k).alloc (.cells (Array.replicate 64 (.int .u8 0)) 5)).setCell ⟨b, 0, none⟩ (.slice (some ⟨w.heap.size, 0, none⟩) 4 64) := by
  have c0 : w.cell? ⟨b, 0, none⟩ = some (.slice none 0 0) := by rw [Lib.cell_of_heap hbk]; rfl
  have c1 : w.cell? ⟨b, 1, none⟩ = some (.int .i64 0) := by rw [Lib.cell_of_heap hbk]; rfl
  have f0 : w.frozen? ⟨b, 0, none⟩ = false := Lib.frozen_of_heap hbk 0
  have hlt : b < w.heap.size := block_lt_of_cell c0
  have hne : w.heap.size ≠ b := Nat.ne_of_gt hlt
  have hsz : ∀ k, (w.drewN k).heap.size = w.heap.size := fun k => by simp
  have hB : ∀ k x, Below w.heap.size w ((w.drewN k).alloc x) := fun k x => below_alloc ((Drawn0.refl w).step k).below x
  have d0 : ∀ k x, ((w.drewN k).alloc x).cell? ⟨b, 0, none⟩ = some (.slice none 0 0) := fun k x => ((hB k x).cell (p := ⟨b, 0, none⟩) hlt).trans c0
  have e0 : ∀ k x, ((w.drewN k).alloc x).frozen? ⟨b, 0, none⟩ = false := fun k x => ((hB k x).frozen (p := ⟨b, 0, none⟩) hlt).trans f0
  clear hB
  have HI := Aside0.mk hI
  clear hI hbk
  go_enter Tryz.func126, Tryz.ntmps126
  go_wp2_with (first
    | (go_at_call 59; refine (Tryz.Buffer_Len B b [] _ HI.out).mono ?_; rintro e w1 ⟨rfl, k, rfl⟩)
    | (go_at_call 125; refine (tryGrow_none4 b _ (by first | exact c0 | (rw [World.cell?_drewN]; exact c0))).mono ?_; rintro e w2 ⟨rfl, rfl⟩))
  go_ret
  exact ⟨rfl, k, rfl⟩
end Go.Proofs.YtldjigfnagfalaaGreatDoor.Given

/- (*bytes.Buffer).Write of four bytes into an empty buffer: what else stands stays. -/
import Derived.Test.YtldjigfnagfalaaGreatDoorGvWs
namespace Go.Proofs.YtldjigfnagfalaaGreatDoor.Given
open Go.RowKit Go.Proofs.YtldjigfnagfalaaGreatDoorW.PrintWords
set_option linter.unusedVariables false
theorem size_setCell (w : World) (a : Addr) (v : Value) : (w.setCell a v).heap.size = w.heap.size := by simp [World.setCell]
set_option maxHeartbeats 6400000 in
set_option maxRecDepth 100000 in
theorem write_first4 (B b : Nat) (lr : Int) (l : List UInt8) (a : Addr) (c : Nat) (w : World) (hB : B ≤ b) (hBw : B ≤ w.heap.size) (hbk : w.heap[b]? = some (.cells #[.slice none 0 0, .int .i64 0, .int .i8 lr] 68 (0, 0))) (hn : l.length = 4) (hab : a.block ≠ b)
    (hsrc : ∀ j v, (Lib.byteCells l)[j]? = some v → w.cell? (a.add j) = some v) :
    Calls Tryz.prog 124 #[.pointer (some ⟨b, 0, none⟩), .slice (some a) 4 c] w fun e w' => e = .returned (.tuple #[.int .i64 4, .nilIface]) ∧ Sm w' B b w.heap.size l ∧ Below B w w' ∧ But b w.heap.size w w' := by
  have c2 : w.cell? ⟨b, 2, none⟩ = some (.int .i8 lr) := by rw [Lib.cell_of_heap hbk]; rfl
  have f2 : w.frozen? ⟨b, 2, none⟩ = false := Lib.frozen_of_heap hbk 2
  have hlt : b < w.heap.size := block_lt_of_cell c2
  have hbk1 : (w.setCell ⟨b, 2, none⟩ (.int .i8 0)).heap[b]? = some (.cells #[.slice none 0 0, .int .i64 0, .int .i8 0] 68 (0, 0)) := Lib.heap_setCell_same (i := 2) hbk (.int .i8 0)
  have hI : Lib.IsBuffer 68 5 B b [] (w.setCell ⟨b, 2, none⟩ (.int .i8 0)) := ⟨hB, .slice none 0 0, 0, hbk1, World.ownsRow_nil _ _ _ _, by simp [Value.ownBlock]⟩
  have e0 : (w.setCell ⟨b, 2, none⟩ (.int .i8 0)).cell? ⟨b, 0, none⟩ = some (.slice none 0 0) := by rw [Lib.cell_of_heap hbk1]; rfl
  have HB := Aside0.mk hbk1
  have HI := Aside0.mk hI
  have HE := Aside0.mk e0
  have HS := Aside0.mk hsrc
  have HN := Aside0.mk hn
  clear hbk1 hI e0 hsrc hn hbk
  go_enter Tryz.func124, Tryz.ntmps124
  go_wp2_with (go_at_call 125; refine (tryGrow_none4 b _ HE.out).mono ?_)
  rintro e w1 ⟨rfl, rfl⟩
  go_wp2_with (go_at_call 126; refine (grow4 B b 0 _ HI.out HB.out).mono ?_)
  rintro e w2 ⟨rfl, k, hw2⟩
  rw [size_setCell] at hw2
  obtain ⟨W1, hW1⟩ : ∃ W1, W1 = ((w.setCell ⟨b, 2, none⟩ (.int .i8 0)).drewN k).alloc (.cells (Array.replicate 64 (.int .u8 0)) 5) := ⟨_, rfl⟩
  rw [← hW1] at hw2
  have hz : W1.heap.size = w.heap.size + 1 := by rw [hW1]; simp [World.setCell]
  have hne : w.heap.size ≠ b := Nat.ne_of_gt hlt
  have hbW : W1.heap[b]? = some (.cells #[.slice none 0 0, .int .i64 0, .int .i8 0] 68 (0, 0)) := by
    rw [hW1, Below.heap_alloc _ _ _ (by simp [World.setCell]; exact hlt)]; exact HB.out
  have hgW : W1.heap[w.heap.size]? = some (.cells (Array.replicate 64 (.int .u8 0)) 5 (0, 0)) := by
    rw [hW1]; have := heap_alloc_new ((w.setCell ⟨b, 2, none⟩ (.int .i8 0)).drewN k) (.cells (Array.replicate 64 (.int .u8 0)) 5)
    simpa [World.setCell] using this
  have hoW : ∀ x, x < w.heap.size → x ≠ b → W1.heap[x]? = w.heap[x]? := fun x hx hxb => by
    rw [hW1, Below.heap_alloc _ _ _ (by simp [World.setCell]; exact hx)]
    exact Below.heap_setCell _ _ _ _ hxb
  have hBW : Below B w W1 := by
    rw [hW1]
    exact (((Below.refl B w).setCell (p := ⟨b, 2, none⟩) hB _).trans ((((Drawn0.refl (w.setCell ⟨b, 2, none⟩ (.int .i8 0))).step k).below).mono (by rw [size_setCell]; exact hBw))).alloc (by simpa [World.setCell] using hBw) _
  clear hW1
  subst hw2
  have hbk2 := Lib.heap_setCell_same (i := 0) hbW (.slice (some ⟨w.heap.size, 0, none⟩) 4 64)
  have hg2 : (W1.setCell ⟨b, 0, none⟩ (.slice (some ⟨w.heap.size, 0, none⟩) 4 64)).heap[w.heap.size]? = some (.cells (Array.replicate 64 (.int .u8 0)) 5 (0, 0)) := by rw [Below.heap_setCell _ _ _ _ hne]; exact hgW
  have hB2 : Below B w (W1.setCell ⟨b, 0, none⟩ (.slice (some ⟨w.heap.size, 0, none⟩) 4 64)) := hBW.setCell (p := ⟨b, 0, none⟩) hB _
  have hsrc1 : ∀ j v, (Lib.byteCells l)[j]? = some v → (W1.setCell ⟨b, 0, none⟩ (.slice (some ⟨w.heap.size, 0, none⟩) 4 64)).cell? (a.add j) = some v := fun j v hj => by
    have hs := HS.out j v hj
    have hbl : (a.add j).block = a.block := Lib.block_add _ _
    have hb2 : b ≠ (a.add j).block := by rw [hbl]; exact Ne.symm hab
    rw [World.cell?_setCell_far _ _ _ _ hb2]
    have hl2 : (a.add j).block < w.heap.size := block_lt_of_cell hs
    have := hoW _ hl2 (Ne.symm hb2)
    rw [← hs]
    unfold World.cell?
    rw [this]
  have d0 : (W1.setCell ⟨b, 0, none⟩ (.slice (some ⟨w.heap.size, 0, none⟩) 4 64)).cell? ⟨b, 0, none⟩ = some (.slice (some ⟨w.heap.size, 0, none⟩) 4 64) := by rw [Lib.cell_of_heap hbk2]; rfl
  have hL : (Lib.byteCells l).length = 4 := by rw [Lib.byteCells_length]; exact HN.out
  have hcp := run_copy_row (P := Tryz.prog) _ 24 24 3 5 w.heap.size 0 4 64 a 4 c (Array.replicate 64 (.int .u8 0)) 5 (Lib.byteCells l) Tryz.underlying24 info5 hg2 (by rw [hL]; rfl) hsrc1 (by rw [hL]; simp) (one_bytes l)
  rw [hL] at hcp
  have HB2 := Aside0.mk hbk2
  have HG2 := Aside0.mk hg2
  have HBB := Aside0.mk hB2
  have HO := Aside0.mk hoW
  have HL := Aside0.mk hL
  clear hbk2 hg2 hB2 hoW hL hsrc1 hbW hgW hBW hz
  go_wp2
  go_ret2
  have hl2 : (Lib.byteCells l).length = 4 := HL.out
  obtain ⟨r1, r2⟩ := Lib.written_end (B := B) (news := Lib.byteCells l) (l := 0) hB (by rw [hl2]; exact HB2.out) hBw HG2.out (by unfold maxLen; omega) (Array.size_replicate ..) hne (by rw [hl2]; omega)
  rw [hl2, List.append_assoc] at r2
  refine ⟨rfl, ⟨hB, hBw, hne, 0, _, ?_, setRow_heap _ w.heap.size _ _ 5 (0, 0) HG2.out, ?_, ?_, ?_⟩, HBB.out.trans r2, fun x hx hxb hxg => ?_⟩
  · rw [setRow_other _ _ _ _ (Ne.symm hne), HN.out]; exact HB2.out
  · rw [HN.out]; omega
  · simp [hl2]
  · rw [HN.out]
    exact List.take_left' hl2
  · rw [setRow_other _ _ _ _ hxg, Below.heap_setCell _ _ _ _ hxb]; exact HO.out x hx hxb
end Go.Proofs.YtldjigfnagfalaaGreatDoor.Given

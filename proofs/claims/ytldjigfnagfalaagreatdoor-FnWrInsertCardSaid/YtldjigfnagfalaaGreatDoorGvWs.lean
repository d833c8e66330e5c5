/- (*bytes.Buffer).Write of a few bytes: into a row of 64 with room, and into an empty buffer; what else stands stays. -/
import Derived.Test.YtldjigfnagfalaaGreatDoorGvGr
import Derived.Laws.CopyRow
import Derived.Laws.IdiomCopy
import Derived.Lib.BufferWrite
import Derived.Lib.BufferSrc
namespace Go.Proofs.YtldjigfnagfalaaGreatDoor.Given
open Go.RowKit Go.Proofs.YtldjigfnagfalaaGreatDoorW.PrintWords
set_option linter.unusedVariables false
/-- A buffer at b with a row of 64 bytes at g, of which the first are bs. -/
structure Sm (w : World) (B b g : Nat) (bs : List UInt8) : Prop where
  lo : B ≤ b
  log : B ≤ g
  ne : g ≠ b
  ex : ∃ lr cur, w.heap[b]? = some (.cells #[.slice (some ⟨g, 0, none⟩) bs.length 64, .int .i64 0, .int .i8 lr] 68 (0, 0)) ∧ w.heap[g]? = some (.cells cur 5 (0, 0)) ∧ bs.length ≤ 64 ∧ cur.size = 64 ∧ cur.toList.take bs.length = Lib.byteCells bs
theorem Sm.buf {w : World} {B b g : Nat} {bs : List UInt8} (h : Sm w B b g bs) : Lib.IsBuffer 68 5 B b (Lib.byteCells bs) w := by
  obtain ⟨lr, cur, h1, h2, h3, h4, h5⟩ := h.ex
  have := Lib.isBuffer_mk h.lo h1 h.log h2 h3 (by unfold maxLen; omega) h4 h.ne
  rwa [h5] at this
theorem Sm.lt {w : World} {B b g : Nat} {bs : List UInt8} (h : Sm w B b g bs) : g < w.heap.size := by
  obtain ⟨lr, cur, h1, h2, _⟩ := h.ex
  exact Lib.lt_of_heap h2
theorem Sm.old {w w' : World} {B b g : Nat} {bs : List UInt8} (h : Sm w B b g bs) (hb : w'.heap[b]? = w.heap[b]?) (hg : w'.heap[g]? = w.heap[g]?) : Sm w' B b g bs := by
  obtain ⟨lr, cur, h1, h2, h3⟩ := h.ex
  exact ⟨h.lo, h.log, h.ne, lr, cur, hb.trans h1, hg.trans h2, h3⟩
/-- Every block but b and g stays. -/
def But (b g : Nat) (w w' : World) : Prop := ∀ x, x < w.heap.size → x ≠ b → x ≠ g → w'.heap[x]? = w.heap[x]?
theorem take_three {A N D : List Value} {a n : Nat} (hA : A.length = a) (hN : N.length = n) : (A ++ (N ++ D)).toArray.toList.take (a + n) = A ++ N := by
  rw [← List.append_assoc]
  exact List.take_left' (by rw [List.length_append, hA, hN])
theorem info5 : (Tryz.prog.info? 5).map (·.size) = some 1 := by kernel_rfl
set_option maxHeartbeats 6400000 in
set_option maxRecDepth 100000 in
theorem write_room (B b g : Nat) (bs l : List UInt8) (a : Addr) (n c : Nat) (w : World) (h : Sm w B b g bs) (hn : l.length = n) (h0 : 0 < n) (hl : bs.length + n ≤ 64) (hab : a.block ≠ b)
    (hsrc : ∀ j v, (Lib.byteCells l)[j]? = some v → w.cell? (a.add j) = some v) :
    Calls Tryz.prog 124 #[.pointer (some ⟨b, 0, none⟩), .slice (some a) n c] w fun e w' => e = .returned (.tuple #[.int .i64 n, .nilIface]) ∧ Sm w' B b g (bs ++ l) ∧ Below B w w' ∧ But b g w w' := by
  obtain ⟨hB, hBg, hgb, lr, cur, hbk, hg, hnc, hcs, htk⟩ := h
  have c2 : w.cell? ⟨b, 2, none⟩ = some (.int .i8 lr) := by rw [Lib.cell_of_heap hbk]; rfl
  have f2 : w.frozen? ⟨b, 2, none⟩ = false := Lib.frozen_of_heap hbk 2
  have hbk1 := Lib.heap_setCell_same (i := 2) hbk (.int .i8 0)
  have hg1 : (w.setCell ⟨b, 2, none⟩ (.int .i8 0)).heap[g]? = some (.cells cur 5 (0, 0)) := by rw [Below.heap_setCell _ _ _ _ hgb]; exact hg
  have hbk2 := Lib.heap_setCell_same (i := 0) hbk1 (.slice (some ⟨g, 0, none⟩) (bs.length + n) 64)
  have hg2 : ((w.setCell ⟨b, 2, none⟩ (.int .i8 0)).setCell ⟨b, 0, none⟩ (.slice (some ⟨g, 0, none⟩) (bs.length + n) 64)).heap[g]? = some (.cells cur 5 (0, 0)) := by rw [Below.heap_setCell _ _ _ _ hgb]; exact hg1
  have hB2 : Below B w ((w.setCell ⟨b, 2, none⟩ (.int .i8 0)).setCell ⟨b, 0, none⟩ (.slice (some ⟨g, 0, none⟩) (bs.length + n) 64)) := ((Below.refl B w).setCell (p := ⟨b, 2, none⟩) hB _).setCell (p := ⟨b, 0, none⟩) hB _
  have hbut : But b g w ((w.setCell ⟨b, 2, none⟩ (.int .i8 0)).setCell ⟨b, 0, none⟩ (.slice (some ⟨g, 0, none⟩) (bs.length + n) 64)) := fun x _ hx _ => by rw [Below.heap_setCell _ _ _ _ hx, Below.heap_setCell _ _ _ _ hx]
  have hsrc1 : ∀ j v, (Lib.byteCells l)[j]? = some v → ((w.setCell ⟨b, 2, none⟩ (.int .i8 0)).setCell ⟨b, 0, none⟩ (.slice (some ⟨g, 0, none⟩) (bs.length + n) 64)).cell? (a.add j) = some v := fun j v hj => by
    have hne : b ≠ (a.add j).block := by rw [Lib.block_add]; exact Ne.symm hab
    rw [World.cell?_setCell_far _ _ _ _ hne, World.cell?_setCell_far _ _ _ _ hne]
    exact hsrc j v hj
  have d0 : ((w.setCell ⟨b, 2, none⟩ (.int .i8 0)).setCell ⟨b, 0, none⟩ (.slice (some ⟨g, 0, none⟩) (bs.length + n) 64)).cell? ⟨b, 0, none⟩ = some (.slice (some ⟨g, 0, none⟩) (bs.length + n) 64) := by rw [Lib.cell_of_heap hbk2]; rfl
  have e0 : (w.setCell ⟨b, 2, none⟩ (.int .i8 0)).cell? ⟨b, 0, none⟩ = some (.slice (some ⟨g, 0, none⟩) bs.length 64) := by rw [Lib.cell_of_heap hbk1]; rfl
  have ef : (w.setCell ⟨b, 2, none⟩ (.int .i8 0)).frozen? ⟨b, 0, none⟩ = false := Lib.frozen_of_heap hbk1 0
  have hne64 : ¬ (64 = bs.length) := by omega
  have hlen : (Lib.byteCells l).length = n := by rw [Lib.byteCells_length]; exact hn
  have HB := Aside0.mk hbk2
  have HE := Aside0.mk e0
  have HF := Aside0.mk ef
  have HS := Aside0.mk hsrc1
  have HG := Aside0.mk hg2
  have HD := Aside0.mk d0
  have HH := Aside0.mk htk
  have HN := Aside0.mk hn
  have HL := Aside0.mk hlen
  have HC := Aside0.mk hcs
  clear hbk1 hg1 hbk2 hsrc1 hg2 d0 e0 ef hbk hg htk hn hlen hcs hsrc
  go_enter Tryz.func124, Tryz.ntmps124
  go_wp2_with (go_at_call 125; refine (Any.Buffer_tryGrow_room { Tryz.laysM180 with } b (some ⟨g, 0, none⟩) bs.length 64 n _ HE.out HF.out hnc (by unfold maxLen; omega) (by omega)).mono ?_)
  rintro e w1 ⟨rfl, rfl⟩
  have d0 := HD.out
  have hcp := run_copy_row (P := Tryz.prog) _ 24 24 3 5 g bs.length n (64 - bs.length) a n c cur 5 (Lib.byteCells l) Tryz.underlying24 info5 HG.out (by rw [HL.out]; exact (Nat.min_self n).symm) HS.out (by rw [HL.out, HC.out]; omega) (one_bytes l)
  rw [HL.out] at hcp
  go_wp2
  go_ret2
  have hl2 : (Lib.byteCells l).length = n := HL.out
  obtain ⟨r1, r2⟩ := Lib.written_end (B := B) (news := Lib.byteCells l) (l := bs.length) hB (by rw [hl2]; exact HB.out) hBg HG.out (by unfold maxLen; omega) HC.out hgb (by rw [hl2]; exact hl)
  rw [hl2, List.append_assoc] at r2
  refine ⟨rfl, ⟨hB, hBg, hgb, 0, _, ?_, setRow_heap _ g cur _ 5 (0, 0) HG.out, ?_, ?_, ?_⟩, hB2.trans r2, fun x hx hxb hxg => ?_⟩
  · rw [setRow_other _ _ _ _ (Ne.symm hgb), List.length_append, HN.out]; exact HB.out
  · rw [List.length_append, HN.out]; exact hl
  · have := HC.out
    simp only [List.size_toArray, List.length_append, List.length_take, List.length_drop, Array.length_toList, hl2]; omega
  · have e2 : (List.take bs.length cur.toList).length = bs.length := by have := HC.out; have h2 := Array.length_toList (xs := cur); rw [List.length_take]; omega
    rw [List.length_append, HN.out, Lib.byteCells_append, ← HH.out]; exact take_three e2 hl2
  · rw [setRow_other _ _ _ _ hxg]; exact hbut x hx hxb hxg
end Go.Proofs.YtldjigfnagfalaaGreatDoor.Given

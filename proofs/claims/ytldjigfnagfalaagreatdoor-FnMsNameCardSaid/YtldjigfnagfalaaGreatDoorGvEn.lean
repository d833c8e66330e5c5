/- Part of the proof of LawFnMsName. -/
import Derived.Test.YtldjigfnagfalaaGreatDoorShelf
import Derived.Test.YtldjigfnagfalaaGreatDoorGvAs
import Derived.LoopTactic
import Derived.Deep.QuietTactic
import Derived.BigQuiet
import Derived.Deep.RegionWith
import Derived.Lib.EndianMore
import Derived.Laws.IdiomCopy
import Derived.Lib.Buffer
import Derived.Lib.BufferOld
import Derived.Lib.BufferKept
import Derived.Lib.BufferWrite
import Derived.Lib.BufferMore
import Derived.Laws.CopyRow
import Derived.Lib.BufferSrc
set_option linter.unusedVariables false
set_option linter.unusedSimpArgs false
section
namespace Go.Proofs.YtldjigfnagfalaaGreatDoor.Given
open Go.RowKit Go.Proofs.YtldjigfnagfalaaGreatDoorW.PrintWords
set_option linter.unusedVariables false
attribute [local go_sem] as_5_5 as_5_105 as_5_106 as_5_115 as_5_4 as_5_64 as_5_131 as_5_21 as_5_36 as_5_2 as_5_23 as_5_132 as_5_9 as_5_135 as_5_111 as_5_113 as_5_178 as_5_156 as_5_76 as_5_24 as_5_162 as_5_186 as_5_158 as_64_5
attribute [local go_sem] as_64_105 as_64_106 as_64_115 as_64_4 as_64_64 as_64_131 as_64_21 as_64_36 as_64_2 as_64_23 as_64_132 as_64_9 as_64_135 as_64_111 as_64_113 as_64_178 as_64_156 as_64_76 as_64_24 as_64_162 as_64_186 as_64_158 as_131_5 as_131_105
attribute [local go_sem] as_131_106 as_131_115 as_131_4 as_131_64 as_131_131 as_131_21 as_131_36 as_131_2 as_131_23 as_131_132 as_131_9 as_131_135 as_131_111 as_131_113 as_131_178 as_131_156 as_131_76 as_131_24 as_131_162 as_131_186 as_131_158 as_21_5 as_21_105 as_21_106
attribute [local go_sem] as_21_115 as_21_4 as_21_64 as_21_131 as_21_21 as_21_36 as_21_2 as_21_23 as_21_132 as_21_9 as_21_135 as_21_111 as_21_113 as_21_178 as_21_156 as_21_76 as_21_24 as_21_162 as_21_186 as_21_158 as_36_5 as_36_105 as_36_106 as_36_115
attribute [local go_sem] as_36_4 as_36_64 as_36_131 as_36_21 as_36_36 as_36_2 as_36_23 as_36_132 as_36_9 as_36_135 as_36_111 as_36_113 as_36_178 as_36_156 as_36_76 as_36_24 as_36_162 as_36_186 as_36_158 as_2_5 as_2_105 as_2_106 as_2_115 as_2_4
attribute [local go_sem] as_2_64 as_2_131 as_2_21 as_2_36 as_2_2 as_2_23 as_2_132 as_2_9 as_2_135 as_2_111 as_2_113 as_2_178 as_2_156 as_2_76 as_2_24 as_2_162 as_2_186 as_2_158 as_23_5 as_23_105 as_23_106 as_23_115 as_23_4 as_23_64
attribute [local go_sem] as_23_131 as_23_21 as_23_36 as_23_2 as_23_23 as_23_132 as_23_9 as_23_135 as_23_111 as_23_113 as_23_178 as_23_156 as_23_76 as_23_24 as_23_162 as_23_186 as_23_158 as_132_5 as_132_105 as_132_106 as_132_115 as_132_4 as_132_64 as_132_131
attribute [local go_sem] as_132_21 as_132_36 as_132_2 as_132_23 as_132_132 as_132_9 as_132_135 as_132_111 as_132_113 as_132_178 as_132_156 as_132_76 as_132_24 as_132_162 as_132_186 as_132_158 as_156_5 as_156_105 as_156_106 as_156_115 as_156_4 as_156_64 as_156_131 as_156_21
attribute [local go_sem] as_156_36 as_156_2 as_156_23 as_156_132 as_156_9 as_156_135 as_156_111 as_156_113 as_156_178 as_156_156 as_156_76 as_156_24 as_156_162 as_156_186 as_156_158 as_162_5 as_162_105 as_162_106 as_162_115 as_162_4 as_162_64 as_162_131 as_162_21 as_162_36
attribute [local go_sem] as_162_2 as_162_23 as_162_132 as_162_9 as_162_135 as_162_111 as_162_113 as_162_178 as_162_156 as_162_76 as_162_24 as_162_162 as_162_186 as_162_158 ai_5 ai_64 ai_131 ai_21 ai_36 ai_2 ai_23 ai_132 ai_156 ai_162
theorem mk2 (W : World) : (Instr.makeSlice 24 (.int .i64 2) (.int .i64 2)).run Tryz.prog W = .ok (.slice (some ⟨W.heap.size, 0, none⟩) 2 2) (W.alloc (.cells #[.int .u8 0, .int .u8 0] 5)) := by kernel_rfl
theorem mk4 (W : World) : (Instr.makeSlice 24 (.int .i64 4) (.int .i64 4)).run Tryz.prog W = .ok (.slice (some ⟨W.heap.size, 0, none⟩) 4 4) (W.alloc (.cells #[.int .u8 0, .int .u8 0, .int .u8 0, .int .u8 0] 5)) := by kernel_rfl
theorem mk8 (W : World) : (Instr.makeSlice 24 (.int .i64 8) (.int .i64 8)).run Tryz.prog W = .ok (.slice (some ⟨W.heap.size, 0, none⟩) 8 8) (W.alloc (.cells #[.int .u8 0, .int .u8 0, .int .u8 0, .int .u8 0, .int .u8 0, .int .u8 0, .int .u8 0, .int .u8 0] 5)) := by kernel_rfl
attribute [local go_sem] mk2 mk4 mk8
theorem me_le16 (W : World) : (method 337 97 (.agg #[]) "PutUint16").run Tryz.prog W = .ok (140, .agg #[]) W := by kernel_rfl
theorem me_le32 (W : World) : (method 337 97 (.agg #[]) "PutUint32").run Tryz.prog W = .ok (141, .agg #[]) W := by kernel_rfl
theorem me_le64 (W : World) : (method 337 97 (.agg #[]) "PutUint64").run Tryz.prog W = .ok (142, .agg #[]) W := by kernel_rfl
theorem me_be16 (W : World) : (method 337 96 (.agg #[]) "PutUint16").run Tryz.prog W = .ok (132, .agg #[]) W := by kernel_rfl
theorem me_be32 (W : World) : (method 337 96 (.agg #[]) "PutUint32").run Tryz.prog W = .ok (133, .agg #[]) W := by kernel_rfl
theorem me_be64 (W : World) : (method 337 96 (.agg #[]) "PutUint64").run Tryz.prog W = .ok (134, .agg #[]) W := by kernel_rfl
theorem me_write (p : Value) (W : World) : (method 337 71 p "Write").run Tryz.prog W = .ok (124, p) W := by kernel_rfl
attribute [local go_sem] me_le16 me_le32 me_le64 me_be16 me_be32 me_be64 me_write
theorem put_facts (w : World) (zs : Array Value) (bytes : List UInt8) (o2 : Obj) (hl : bytes.length = zs.size) :
    Below w.heap.size w (((w.alloc (.cells zs 5)).alloc o2).setCells w.heap.size 0 (Lib.byteCells bytes)) ∧ ∀ j v, (Lib.byteCells bytes)[j]? = some v → (((w.alloc (.cells zs 5)).alloc o2).setCells w.heap.size 0 (Lib.byteCells bytes)).cell? ((⟨w.heap.size, 0, none⟩ : Addr).add j) = some v := by
  constructor
  · exact (((Below.refl _ _).alloc (Nat.le_refl _) _).alloc (by simp) _).trans (Lib.below_setCells_w (Nat.le_refl _) _ _ _)
  · intro j v hj
    obtain ⟨hj1, hj2⟩ := List.getElem?_eq_some_iff.1 hj
    rw [Lib.addr_add]
    rw [World.cell?_setCells_in w.heap.size (Lib.byteCells bytes) 0 _ ?_ j hj1, hj2]
    intro i hi
    have hi' : i < zs.size := by rw [Lib.byteCells_length] at hi; omega
    have hc : ((w.alloc (.cells zs 5)).alloc o2).heap[w.heap.size]? = some (.cells zs 5 (0, 0)) := by rw [Below.heap_alloc _ _ _ (by simp)]; exact heap_alloc_new w _
    rw [Nat.zero_add, Lib.cell_of_heap hc, Array.getElem?_eq_getElem hi']
    rfl
theorem cf82 (b : Nat) (W : World) : (callFunc 82 #[.float .f64 b]).run Tryz.prog W = .ok (.value (.int .u64 b)) W := by kernel_rfl
attribute [local go_sem] cf82
def Takes (w : World) (b : Nat) (bytes : List UInt8) (R : World → Prop) : Prop :=
  ∀ W g c, Below w.heap.size w W → w.heap.size ≤ g → (∀ j v, (Lib.byteCells bytes)[j]? = some v → W.cell? ((⟨g, 0, none⟩ : Addr).add j) = some v) →
    Calls Tryz.prog 124 #[.pointer (some ⟨b, 0, none⟩), .slice (some ⟨g, 0, none⟩) bytes.length c] W fun e w' => e = .returned (.tuple #[.int .i64 bytes.length, .nilIface]) ∧ R w'
set_option maxHeartbeats 4000000 in
set_option maxRecDepth 100000 in
theorem bw_u32_le (e b v : Nat) (hv : v < 4294967296) (R : World → Prop) (w : World) (c0 : w.cell? ⟨e, 0, none⟩ = some (.iface 71 (.pointer (some ⟨b, 0, none⟩)))) (c2 : w.cell? ⟨e, 2, none⟩ = some (.iface 97 (.agg #[]))) (HW : Takes w b (Lib.leBytes 4 v) R) :
    Calls Tryz.prog 47 #[.pointer (some ⟨e, 0, none⟩), .iface 36 (.int .u32 v)] w fun r w' => r = .returned (.tuple #[]) ∧ R w' := by
  have he := block_lt_of_cell c0
  have HHW := Aside0.mk HW
  clear HW
  go_enter Tryz.func47, Tryz.ntmps47
  go_wp2_with (first
    | (go_at_call 141; refine (Tryz.binary_LE_PutUint32 w.heap.size 0 4 4 v hv (.int .u8 0) (.int .u8 0) (.int .u8 0) (.int .u8 0) _ (Nat.le_refl _) (by simp) (by simp) (by simp) (by simp) (by simp) (by simp) (by simp) (by simp) ).mono ?_; rintro r w1 ⟨rfl, hw1⟩; obtain ⟨hb, hcs⟩ := put_facts w #[.int .u8 0, .int .u8 0, .int .u8 0, .int .u8 0] (Lib.leBytes 4 v) (.cells #[] 97) (Lib.leBytes_length 4 v); rw [← hw1] at hb hcs; have HCS := Aside0.mk hcs; have HB := Aside0.mk hb; have c0' : w1.cell? ⟨e, 0, none⟩ = some (.iface 71 (.pointer (some ⟨b, 0, none⟩))) := (hb.cell (p := ⟨e, 0, none⟩) he).trans c0; clear hw1 hb hcs)
    | (go_at_call 124; have hW := HHW.out w1 w.heap.size 4 HB.out (Nat.le_refl _) HCS.out; rw [Lib.leBytes_length 4 v] at hW; refine hW.mono ?_; rintro r w2 ⟨rfl, hR⟩))
  refine bodyPost_end (results_none (by rfl) _ _ _) rfl ⟨rfl, hR⟩
set_option maxHeartbeats 4000000 in
set_option maxRecDepth 100000 in
theorem bw_u32_be (e b v : Nat) (hv : v < 4294967296) (R : World → Prop) (w : World) (c0 : w.cell? ⟨e, 0, none⟩ = some (.iface 71 (.pointer (some ⟨b, 0, none⟩)))) (c2 : w.cell? ⟨e, 2, none⟩ = some (.iface 96 (.agg #[]))) (HW : Takes w b (Lib.beBytes 4 v) R) :
    Calls Tryz.prog 47 #[.pointer (some ⟨e, 0, none⟩), .iface 36 (.int .u32 v)] w fun r w' => r = .returned (.tuple #[]) ∧ R w' := by
  have he := block_lt_of_cell c0
  have HHW := Aside0.mk HW
  clear HW
  go_enter Tryz.func47, Tryz.ntmps47
  go_wp2_with (first
    | (go_at_call 133; refine (Tryz.binary_BE_PutUint32 w.heap.size 0 4 4 v hv (.int .u8 0) (.int .u8 0) (.int .u8 0) (.int .u8 0) _ (Nat.le_refl _) (by simp) (by simp) (by simp) (by simp) (by simp) (by simp) (by simp) (by simp) ).mono ?_; rintro r w1 ⟨rfl, hw1⟩; obtain ⟨hb, hcs⟩ := put_facts w #[.int .u8 0, .int .u8 0, .int .u8 0, .int .u8 0] (Lib.beBytes 4 v) (.cells #[] 96) (Lib.beBytes_length 4 v); rw [← hw1] at hb hcs; have HCS := Aside0.mk hcs; have HB := Aside0.mk hb; have c0' : w1.cell? ⟨e, 0, none⟩ = some (.iface 71 (.pointer (some ⟨b, 0, none⟩))) := (hb.cell (p := ⟨e, 0, none⟩) he).trans c0; clear hw1 hb hcs)
    | (go_at_call 124; have hW := HHW.out w1 w.heap.size 4 HB.out (Nat.le_refl _) HCS.out; rw [Lib.beBytes_length 4 v] at hW; refine hW.mono ?_; rintro r w2 ⟨rfl, hR⟩))
  refine bodyPost_end (results_none (by rfl) _ _ _) rfl ⟨rfl, hR⟩
end Go.Proofs.YtldjigfnagfalaaGreatDoor.Given
end
section
namespace Go.Proofs.YtldjigfnagfalaaGreatDoor.Given
open Go.RowKit Go.Proofs.YtldjigfnagfalaaGreatDoorW.PrintWords
set_option linter.unusedVariables false
theorem one_bytes (l : List UInt8) : ∀ v ∈ Lib.byteCells l, v.oneCell' = true := by
  intro v hv
  obtain ⟨b, _, rfl⟩ := List.mem_map.1 hv
  rfl
theorem takes_inner (B b : Nat) (bs bytes : List UInt8) (w : World) (h : Lib.IsBuffer 68 5 B b (Lib.byteCells bs) w) (hBw : B ≤ w.heap.size) (hlim : bs.length + bytes.length ≤ 140737488355328) :
    Takes w b bytes (fun w' => Lib.IsBuffer 68 5 B b (Lib.byteCells (bs ++ bytes)) w' ∧ Below B w w' ∧ Lib.OthersKept 5 (some b) w w') := by
  intro W g c hb hg hcs
  have hbl := h.lt
  refine (Tryz.Buffer_Write_any B b (Lib.byteCells bs) (Lib.byteCells bytes) ⟨g, 0, none⟩ bytes.length c W (h.old hb) (Nat.le_trans hBw hb.size) (one_bytes bs) (Lib.byteCells_length bytes) (show g ≠ b by omega) hcs (one_bytes bytes) (by rw [Lib.byteCells_length]; exact hlim)).mono ?_
  rintro e w' ⟨rfl, hI, hB, hK⟩
  refine ⟨rfl, by rw [Lib.byteCells_append]; exact hI, (hb.mono hBw).trans hB, ((Lib.OthersKept.refl 5 (some b) w).below hb).trans hK⟩
end Go.Proofs.YtldjigfnagfalaaGreatDoor.Given
end
section
namespace Go.Proofs.YtldjigfnagfalaaGreatDoor.Given
open Go.RowKit Go.Proofs.YtldjigfnagfalaaGreatDoorW.PrintWords
set_option linter.unusedVariables false
theorem buf_set {B b e i : Nat} {bs : List Value} {w : World} (h : Lib.IsBuffer 68 5 B b bs w) {cs : Array Value} (he : w.heap[e]? = some (.cells cs 94 (0, 0))) (v : Value) : Lib.IsBuffer 68 5 B b bs (w.setCell ⟨e, i, none⟩ v) := by
  obtain ⟨hB, lr, hc⟩ := h.cases
  rcases hc with ⟨rfl, hbk⟩ | ⟨g, cap, cur, hbk, hBg, hg, hnc, hcm, hcs, htk, hgb⟩
  · have hne : b ≠ e := by rintro rfl; rw [hbk] at he; simp at he
    have hbk' := (heap_setCell_other w ⟨e, i, none⟩ b v hne).trans hbk
    exact ⟨hB, .slice none 0 0, lr, hbk', World.ownsRow_nil _ _ _ _, by simp [Value.ownBlock]⟩
  · have hne : b ≠ e := by rintro rfl; rw [hbk] at he; simp at he
    have hne2 : g ≠ e := by rintro rfl; rw [hg] at he; simp at he
    have hbk' := (heap_setCell_other w ⟨e, i, none⟩ b v hne).trans hbk
    have hg' := (heap_setCell_other w ⟨e, i, none⟩ g v hne2).trans hg
    have h2 := Lib.isBuffer_mk hB hbk' hBg hg' hnc hcm hcs hgb
    rw [htk] at h2
    exact h2
structure En (w : World) (B e b : Nat) (o : TypeId) (q : Int) (bs : List UInt8) : Prop where
  enc : w.heap[e]? = some (.cells #[.iface 71 (.pointer (some ⟨b, 0, none⟩)), .slice none 0 0, .iface o (.agg #[]), .int .i64 q] 94 (0, 0))
  buf : Lib.IsBuffer 68 5 B b (Lib.byteCells bs) w
  lo : B ≤ e
  low : B ≤ w.heap.size
theorem En.c0 {w : World} {B e b : Nat} {o : TypeId} {q : Int} {bs : List UInt8} (h : En w B e b o q bs) : w.cell? ⟨e, 0, none⟩ = some (.iface 71 (.pointer (some ⟨b, 0, none⟩))) := by rw [Lib.cell_of_heap h.enc]; rfl
theorem En.c2 {w : World} {B e b : Nat} {o : TypeId} {q : Int} {bs : List UInt8} (h : En w B e b o q bs) : w.cell? ⟨e, 2, none⟩ = some (.iface o (.agg #[])) := by rw [Lib.cell_of_heap h.enc]; rfl
theorem En.c3 {w : World} {B e b : Nat} {o : TypeId} {q : Int} {bs : List UInt8} (h : En w B e b o q bs) : w.cell? ⟨e, 3, none⟩ = some (.int .i64 q) := by rw [Lib.cell_of_heap h.enc]; rfl
def Rt (w : World) (B b : Nat) (bs : List UInt8) (w' : World) : Prop := Lib.IsBuffer 68 5 B b (Lib.byteCells bs) w' ∧ Below B w w' ∧ Lib.OthersKept 5 (some b) w w'
theorem En.keeps {w w' : World} {B e b : Nat} {o : TypeId} {q : Int} {bs bs2 : List UInt8} (h : En w B e b o q bs) (hr : Rt w B b bs2 w') : w'.heap[e]? = some (.cells #[.iface 71 (.pointer (some ⟨b, 0, none⟩)), .slice none 0 0, .iface o (.agg #[]), .int .i64 q] 94 (0, 0)) := by
  refine hr.2.2 e _ h.enc ?_ (by intro c fz hc; cases hc)
  intro hx
  obtain rfl := Option.some.inj hx
  obtain ⟨_, lr, hc⟩ := h.buf.cases
  rcases hc with ⟨_, hbk⟩ | ⟨_, _, _, hbk, _⟩
  · have := h.enc.symm.trans hbk; simp at this
  · have := h.enc.symm.trans hbk; simp at this
theorem En.step {w w1 : World} {B e b : Nat} {o : TypeId} {q q2 : Int} {bs bs2 : List UInt8} (h : En w B e b o q bs) (hr : Rt w B b bs2 w1) : En (w1.setCell ⟨e, 3, none⟩ (.int .i64 q2)) B e b o q2 bs2 ∧ Below B w (w1.setCell ⟨e, 3, none⟩ (.int .i64 q2)) := by
  have hk := h.keeps hr
  have hb := hr.2.1.setCell (p := ⟨e, 3, none⟩) h.lo (.int .i64 q2)
  exact ⟨⟨heap_setCell_same w1 e 3 _ 94 _ hk, buf_set hr.1 hk _, h.lo, Nat.le_trans h.low (Nat.le_trans hr.2.1.size (by simp [World.setCell]))⟩, hb⟩
end Go.Proofs.YtldjigfnagfalaaGreatDoor.Given
end
section
namespace Go.Proofs.YtldjigfnagfalaaGreatDoor.Given
open Go.RowKit Go.Proofs.YtldjigfnagfalaaGreatDoorW.PrintWords
set_option linter.unusedVariables false
theorem bcell {W w1 : World} (hb : Below W.heap.size W w1) : (∀ b o, b < W.heap.size → w1.cell? ⟨b, o, none⟩ = W.cell? ⟨b, o, none⟩) ∧ (∀ b o, b < W.heap.size → w1.frozen? ⟨b, o, none⟩ = W.frozen? ⟨b, o, none⟩) :=
  ⟨fun b o h => hb.cell (p := ⟨b, o, none⟩) h, fun b o h => hb.frozen (p := ⟨b, o, none⟩) h⟩
theorem below_step {w W w' : World} (h : Below w.heap.size w W) (hb : Below W.heap.size W w') : Below w.heap.size w w' := h.trans (hb.mono h.size)
theorem below_alloc {w W : World} (h : Below w.heap.size w W) (o : Obj) : Below w.heap.size w (W.alloc o) := h.alloc h.size o
theorem below_drew {w W : World} (h : Below w.heap.size w W) : Below w.heap.size w W.drew := h.drew
theorem below_new {w w1 : World} {o : Obj} (hb : Below (w.alloc o).heap.size (w.alloc o) w1) : Below w.heap.size w w1 :=
  ((Below.refl _ _).alloc (Nat.le_refl _) _).trans (hb.mono (by simp))
attribute [local go_sem] as_5_5 as_5_105 as_5_106 as_5_115 as_5_4 as_5_64 as_5_131 as_5_21 as_5_36 as_5_2 as_5_23 as_5_132 as_5_9 as_5_135 as_5_111 as_5_113 as_5_178 as_5_156 as_5_76 as_5_24 as_5_162 as_5_186 as_5_158 as_64_5
attribute [local go_sem] as_64_105 as_64_106 as_64_115 as_64_4 as_64_64 as_64_131 as_64_21 as_64_36 as_64_2 as_64_23 as_64_132 as_64_9 as_64_135 as_64_111 as_64_113 as_64_178 as_64_156 as_64_76 as_64_24 as_64_162 as_64_186 as_64_158 as_131_5 as_131_105
attribute [local go_sem] as_131_106 as_131_115 as_131_4 as_131_64 as_131_131 as_131_21 as_131_36 as_131_2 as_131_23 as_131_132 as_131_9 as_131_135 as_131_111 as_131_113 as_131_178 as_131_156 as_131_76 as_131_24 as_131_162 as_131_186 as_131_158 as_21_5 as_21_105 as_21_106
attribute [local go_sem] as_21_115 as_21_4 as_21_64 as_21_131 as_21_21 as_21_36 as_21_2 as_21_23 as_21_132 as_21_9 as_21_135 as_21_111 as_21_113 as_21_178 as_21_156 as_21_76 as_21_24 as_21_162 as_21_186 as_21_158 as_36_5 as_36_105 as_36_106 as_36_115
attribute [local go_sem] as_36_4 as_36_64 as_36_131 as_36_21 as_36_36 as_36_2 as_36_23 as_36_132 as_36_9 as_36_135 as_36_111 as_36_113 as_36_178 as_36_156 as_36_76 as_36_24 as_36_162 as_36_186 as_36_158 as_2_5 as_2_105 as_2_106 as_2_115 as_2_4
attribute [local go_sem] as_2_64 as_2_131 as_2_21 as_2_36 as_2_2 as_2_23 as_2_132 as_2_9 as_2_135 as_2_111 as_2_113 as_2_178 as_2_156 as_2_76 as_2_24 as_2_162 as_2_186 as_2_158 as_23_5 as_23_105 as_23_106 as_23_115 as_23_4 as_23_64
attribute [local go_sem] as_23_131 as_23_21 as_23_36 as_23_2 as_23_23 as_23_132 as_23_9 as_23_135 as_23_111 as_23_113 as_23_178 as_23_156 as_23_76 as_23_24 as_23_162 as_23_186 as_23_158 as_132_5 as_132_105 as_132_106 as_132_115 as_132_4 as_132_64 as_132_131
attribute [local go_sem] as_132_21 as_132_36 as_132_2 as_132_23 as_132_132 as_132_9 as_132_135 as_132_111 as_132_113 as_132_178 as_132_156 as_132_76 as_132_24 as_132_162 as_132_186 as_132_158 as_156_5 as_156_105 as_156_106 as_156_115 as_156_4 as_156_64 as_156_131 as_156_21
attribute [local go_sem] as_156_36 as_156_2 as_156_23 as_156_132 as_156_9 as_156_135 as_156_111 as_156_113 as_156_178 as_156_156 as_156_76 as_156_24 as_156_162 as_156_186 as_156_158 as_162_5 as_162_105 as_162_106 as_162_115 as_162_4 as_162_64 as_162_131 as_162_21 as_162_36
attribute [local go_sem] as_162_2 as_162_23 as_162_132 as_162_9 as_162_135 as_162_111 as_162_113 as_162_178 as_162_156 as_162_76 as_162_24 as_162_162 as_162_186 as_162_158 ai_5 ai_64 ai_131 ai_21 ai_36 ai_2 ai_23 ai_132 ai_156 ai_162
set_option maxHeartbeats 4000000 in
theorem zType (x : Value) (s : ByteArray) (w : World) : Calls Tryz.prog 43 #[.agg #[x, .string s]] w fun e w' => e = .returned (.string s) ∧ Below w.heap.size w w' := by
  go_enter Tryz.func43, Tryz.ntmps43
  go_wp2
  go_ret
  exact ⟨rfl, (Below.refl _ _).alloc (Nat.le_refl _) _⟩
set_option maxHeartbeats 8000000 in
set_option maxRecDepth 100000 in
theorem typeOf_121 (v : Value) (w : World) : Calls Tryz.prog 70 #[.iface 5 v] w fun e w' => e = .returned (.string ⟨#[121]⟩) ∧ Below w.heap.size w w' := by
  go_enter Tryz.func70, Tryz.ntmps70
  go_wp2
  go_ret
  exact ⟨rfl, Below.refl _ _⟩
set_option maxHeartbeats 4000000 in
theorem valueOf_121 (v : Value) (w : World) : Calls Tryz.prog 37 #[.iface 5 v] w fun e w' => e = .returned (.agg #[.iface 5 v, .string ⟨#[121]⟩]) ∧ Below w.heap.size w w' := by
  go_enter Tryz.func37, Tryz.ntmps37
  go_wp2_with (go_at_call 70; refine (typeOf_121 v _).mono ?_; rintro e w1 ⟨rfl, hb⟩; obtain ⟨hc, hf⟩ := bcell hb)
  refine bodyPost_ret (v := .agg #[.iface 5 v, .string ⟨#[121]⟩]) (by simp [results, go_sem, hc]) rfl ⟨rfl, ?_⟩
  exact ((below_new hb).setCell (Nat.le_refl _) _).setCell (Nat.le_refl _) _
theorem kindOf_121 (w : World) : Calls Tryz.prog 81 #[.string ⟨#[121]⟩] w fun e w' => e = .returned (.int .i64 7) ∧ w = w' := by
  go_enter Tryz.func81, Tryz.ntmps81
  go_wp2
  go_ret
  exact ⟨rfl, rfl⟩
theorem align_121 (w : World) : Calls Tryz.prog 42 #[.string ⟨#[121]⟩] w fun e w' => e = .returned (.int .i64 1) ∧ w = w' := by
  go_enter Tryz.func42, Tryz.ntmps42
  go_wp2_with (go_at_call 81; refine (kindOf_121 _).mono ?_; rintro e w1 ⟨rfl, rfl⟩)
  go_ret
  exact ⟨rfl, rfl⟩
set_option maxHeartbeats 4000000 in
theorem zKind_121 (x : Value) (w : World) : Calls Tryz.prog 44 #[.agg #[x, .string ⟨#[121]⟩]] w fun e w' => e = .returned (.int .i64 7) ∧ Below w.heap.size w w' := by
  go_enter Tryz.func44, Tryz.ntmps44
  go_wp2_with (go_at_call 81; refine (kindOf_121 _).mono ?_; rintro e w1 ⟨rfl, rfl⟩)
  go_ret
  exact ⟨rfl, (Below.refl _ _).alloc (Nat.le_refl _) _⟩
set_option maxHeartbeats 8000000 in
set_option maxRecDepth 100000 in
theorem zNum_121 (v : Int) (h0 : 0 ≤ v) (h1 : v < 256) (w : World) : Calls Tryz.prog 45 #[.agg #[.iface 5 (.int .u8 v), .string ⟨#[121]⟩]] w fun e w' => e = .returned (.int .u64 v) ∧ Below w.heap.size w w' := by
  go_enter Tryz.func45, Tryz.ntmps45
  go_wp2
  go_ret
  exact ⟨rfl, (Below.refl _ _).alloc (Nat.le_refl _) _⟩
set_option maxHeartbeats 8000000 in
set_option maxRecDepth 100000 in
theorem typeOf_117 (v : Value) (w : World) : Calls Tryz.prog 70 #[.iface 36 v] w fun e w' => e = .returned (.string ⟨#[117]⟩) ∧ Below w.heap.size w w' := by
  go_enter Tryz.func70, Tryz.ntmps70
  go_wp2
  go_ret
  exact ⟨rfl, Below.refl _ _⟩
set_option maxHeartbeats 4000000 in
theorem valueOf_117 (v : Value) (w : World) : Calls Tryz.prog 37 #[.iface 36 v] w fun e w' => e = .returned (.agg #[.iface 36 v, .string ⟨#[117]⟩]) ∧ Below w.heap.size w w' := by
  go_enter Tryz.func37, Tryz.ntmps37
  go_wp2_with (go_at_call 70; refine (typeOf_117 v _).mono ?_; rintro e w1 ⟨rfl, hb⟩; obtain ⟨hc, hf⟩ := bcell hb)
  refine bodyPost_ret (v := .agg #[.iface 36 v, .string ⟨#[117]⟩]) (by simp [results, go_sem, hc]) rfl ⟨rfl, ?_⟩
  exact ((below_new hb).setCell (Nat.le_refl _) _).setCell (Nat.le_refl _) _
theorem kindOf_117 (w : World) : Calls Tryz.prog 81 #[.string ⟨#[117]⟩] w fun e w' => e = .returned (.int .i64 9) ∧ w = w' := by
  go_enter Tryz.func81, Tryz.ntmps81
  go_wp2
  go_ret
  exact ⟨rfl, rfl⟩
theorem align_117 (w : World) : Calls Tryz.prog 42 #[.string ⟨#[117]⟩] w fun e w' => e = .returned (.int .i64 4) ∧ w = w' := by
  go_enter Tryz.func42, Tryz.ntmps42
  go_wp2_with (go_at_call 81; refine (kindOf_117 _).mono ?_; rintro e w1 ⟨rfl, rfl⟩)
  go_ret
  exact ⟨rfl, rfl⟩
set_option maxHeartbeats 4000000 in
theorem zKind_117 (x : Value) (w : World) : Calls Tryz.prog 44 #[.agg #[x, .string ⟨#[117]⟩]] w fun e w' => e = .returned (.int .i64 9) ∧ Below w.heap.size w w' := by
  go_enter Tryz.func44, Tryz.ntmps44
  go_wp2_with (go_at_call 81; refine (kindOf_117 _).mono ?_; rintro e w1 ⟨rfl, rfl⟩)
  go_ret
  exact ⟨rfl, (Below.refl _ _).alloc (Nat.le_refl _) _⟩
set_option maxHeartbeats 8000000 in
set_option maxRecDepth 100000 in
theorem zNum_117 (v : Int) (h0 : 0 ≤ v) (h1 : v < 4294967296) (w : World) : Calls Tryz.prog 45 #[.agg #[.iface 36 (.int .u32 v), .string ⟨#[117]⟩]] w fun e w' => e = .returned (.int .u64 v) ∧ Below w.heap.size w w' := by
  go_enter Tryz.func45, Tryz.ntmps45
  go_wp2
  go_ret
  exact ⟨rfl, (Below.refl _ _).alloc (Nat.le_refl _) _⟩
end Go.Proofs.YtldjigfnagfalaaGreatDoor.Given
end
section
namespace Go.Proofs.YtldjigfnagfalaaGreatDoor.Given
open Go.RowKit Go.Proofs.YtldjigfnagfalaaGreatDoorW.PrintWords
set_option linter.unusedVariables false
theorem mk4_64 (W : World) : (Instr.makeSlice 24 (.int .i64 4) (.int .i64 64)).run Tryz.prog W = .ok (.slice (some ⟨W.heap.size, 0, none⟩) 4 64) (W.alloc (.cells (Array.replicate 64 (.int .u8 0)) 5)) := by kernel_rfl
theorem eq_nil24 (W : World) : (binOp BinOp.eql 24 (.slice none 0 0) (.slice none 0 0)).run Tryz.prog W = .ok (.bool true) W := by kernel_rfl
attribute [local go_sem] mk4_64 eq_nil24
end Go.Proofs.YtldjigfnagfalaaGreatDoor.Given
end
section
namespace Go.Proofs.YtldjigfnagfalaaGreatDoor.Given
open Go.RowKit Go.Proofs.YtldjigfnagfalaaGreatDoorW.PrintWords
set_option linter.unusedVariables false
structure Sm (w : World) (B b g : Nat) (bs : List UInt8) : Prop where
  lo : B ≤ b
  log : B ≤ g
  ne : g ≠ b
  ex : ∃ lr cur, w.heap[b]? = some (.cells #[.slice (some ⟨g, 0, none⟩) bs.length 64, .int .i64 0, .int .i8 lr] 68 (0, 0)) ∧ w.heap[g]? = some (.cells cur 5 (0, 0)) ∧ bs.length ≤ 64 ∧ cur.size = 64 ∧ cur.toList.take bs.length = Lib.byteCells bs
theorem Sm.buf {w : World} {B b g : Nat} {bs : List UInt8} (h : Sm w B b g bs) : Lib.IsBuffer 68 5 B b (Lib.byteCells bs) w := by
  obtain ⟨lr, cur, h1, h2, h3, h4, h5⟩ := h.ex
  have := Lib.isBuffer_mk h.lo h1 h.log h2 h3 (by unfold maxLen; omega) h4 h.ne
  rwa [h5] at this
theorem Sm.lt {w : World} {B b g : Nat} {bs : List UInt8} (h : Sm w B b g bs) : g < w.heap.size := by
  obtain ⟨lr, cur, h1, h2, _⟩ := h.ex
  exact Lib.lt_of_heap h2
theorem Sm.old {w w' : World} {B b g : Nat} {bs : List UInt8} (h : Sm w B b g bs) (hb : w'.heap[b]? = w.heap[b]?) (hg : w'.heap[g]? = w.heap[g]?) : Sm w' B b g bs := by
  obtain ⟨lr, cur, h1, h2, h3⟩ := h.ex
  exact ⟨h.lo, h.log, h.ne, lr, cur, hb.trans h1, hg.trans h2, h3⟩
def But (b g : Nat) (w w' : World) : Prop := ∀ x, x < w.heap.size → x ≠ b → x ≠ g → w'.heap[x]? = w.heap[x]?
theorem take_three {A N D : List Value} {a n : Nat} (hA : A.length = a) (hN : N.length = n) : (A ++ (N ++ D)).toArray.toList.take (a + n) = A ++ N := by
  rw [← List.append_assoc]
  exact List.take_left' (by rw [List.length_append, hA, hN])
theorem info5 : (Tryz.prog.info? 5).map (·.size) = some 1 := by kernel_rfl
set_option maxHeartbeats 6400000 in
set_option maxRecDepth 100000 in
theorem write_room (B b g : Nat) (bs l : List UInt8) (a : Addr) (n c : Nat) (w : World) (h : Sm w B b g bs) (hn : l.length = n) (h0 : 0 < n) (hl : bs.length + n ≤ 64) (hab : a.block ≠ b)
    (hsrc : ∀ j v, (Lib.byteCells l)[j]? = some v → w.cell? (a.add j) = some v) :
    Calls Tryz.prog 124 #[.pointer (some ⟨b, 0, none⟩), .slice (some a) n c] w fun e w' => e = .returned (.tuple #[.int .i64 n, .nilIface]) ∧ Sm w' B b g (bs ++ l) ∧ Below B w w' ∧ But b g w w' := by
  obtain ⟨hB, hBg, hgb, lr, cur, hbk, hg, hnc, hcs, htk⟩ := h
  have c2 : w.cell? ⟨b, 2, none⟩ = some (.int .i8 lr) := by rw [Lib.cell_of_heap hbk]; rfl
  have f2 : w.frozen? ⟨b, 2, none⟩ = false := Lib.frozen_of_heap hbk 2
  have hbk1 := Lib.heap_setCell_same (i := 2) hbk (.int .i8 0)
  have hg1 : (w.setCell ⟨b, 2, none⟩ (.int .i8 0)).heap[g]? = some (.cells cur 5 (0, 0)) := by rw [Below.heap_setCell _ _ _ _ hgb]; exact hg
  have hbk2 := Lib.heap_setCell_same (i := 0) hbk1 (.slice (some ⟨g, 0, none⟩) (bs.length + n) 64)
  have hg2 : ((w.setCell ⟨b, 2, none⟩ (.int .i8 0)).setCell ⟨b, 0, none⟩ (.slice (some ⟨g, 0, none⟩) (bs.length + n) 64)).heap[g]? = some (.cells cur 5 (0, 0)) := by rw [Below.heap_setCell _ _ _ _ hgb]; exact hg1
  have hB2 : Below B w ((w.setCell ⟨b, 2, none⟩ (.int .i8 0)).setCell ⟨b, 0, none⟩ (.slice (some ⟨g, 0, none⟩) (bs.length + n) 64)) := ((Below.refl B w).setCell (p := ⟨b, 2, none⟩) hB _).setCell (p := ⟨b, 0, none⟩) hB _
  have hbut : But b g w ((w.setCell ⟨b, 2, none⟩ (.int .i8 0)).setCell ⟨b, 0, none⟩ (.slice (some ⟨g, 0, none⟩) (bs.length + n) 64)) := fun x _ hx _ => by rw [Below.heap_setCell _ _ _ _ hx, Below.heap_setCell _ _ _ _ hx]
  have hsrc1 : ∀ j v, (Lib.byteCells l)[j]? = some v → ((w.setCell ⟨b, 2, none⟩ (.int .i8 0)).setCell ⟨b, 0, none⟩ (.slice (some ⟨g, 0, none⟩) (bs.length + n) 64)).cell? (a.add j) = some v := fun j v hj => by
    have hne : b ≠ (a.add j).block := by rw [Lib.block_add]; exact Ne.symm hab
    rw [World.cell?_setCell_far _ _ _ _ hne, World.cell?_setCell_far _ _ _ _ hne]
    exact hsrc j v hj
  have d0 : ((w.setCell ⟨b, 2, none⟩ (.int .i8 0)).setCell ⟨b, 0, none⟩ (.slice (some ⟨g, 0, none⟩) (bs.length + n) 64)).cell? ⟨b, 0, none⟩ = some (.slice (some ⟨g, 0, none⟩) (bs.length + n) 64) := by rw [Lib.cell_of_heap hbk2]; rfl
  have e0 : (w.setCell ⟨b, 2, none⟩ (.int .i8 0)).cell? ⟨b, 0, none⟩ = some (.slice (some ⟨g, 0, none⟩) bs.length 64) := by rw [Lib.cell_of_heap hbk1]; rfl
  have ef : (w.setCell ⟨b, 2, none⟩ (.int .i8 0)).frozen? ⟨b, 0, none⟩ = false := Lib.frozen_of_heap hbk1 0
  have hne64 : ¬ (64 = bs.length) := by omega
  have hlen : (Lib.byteCells l).length = n := by rw [Lib.byteCells_length]; exact hn
  have HB := Aside0.mk hbk2
  have HE := Aside0.mk e0
  have HF := Aside0.mk ef
  have HS := Aside0.mk hsrc1
  have HG := Aside0.mk hg2
  have HD := Aside0.mk d0
  have HH := Aside0.mk htk
  have HN := Aside0.mk hn
  have HL := Aside0.mk hlen
  have HC := Aside0.mk hcs
  clear hbk1 hg1 hbk2 hsrc1 hg2 d0 e0 ef hbk hg htk hn hlen hcs hsrc
  go_enter Tryz.func124, Tryz.ntmps124
  go_wp2_with (go_at_call 125; refine (Any.Buffer_tryGrow_room { Tryz.laysM180 with } b (some ⟨g, 0, none⟩) bs.length 64 n _ HE.out HF.out hnc (by unfold maxLen; omega) (by omega)).mono ?_)
  rintro e w1 ⟨rfl, rfl⟩
  have d0 := HD.out
  have hcp := run_copy_row (P := Tryz.prog) _ 24 24 3 5 g bs.length n (64 - bs.length) a n c cur 5 (Lib.byteCells l) Tryz.underlying24 info5 HG.out (by rw [HL.out]; exact (Nat.min_self n).symm) HS.out (by rw [HL.out, HC.out]; omega) (one_bytes l)
  rw [HL.out] at hcp
  go_wp2
  go_ret2
  have hl2 : (Lib.byteCells l).length = n := HL.out
  obtain ⟨r1, r2⟩ := Lib.written_end (B := B) (news := Lib.byteCells l) (l := bs.length) hB (by rw [hl2]; exact HB.out) hBg HG.out (by unfold maxLen; omega) HC.out hgb (by rw [hl2]; exact hl)
  rw [hl2, List.append_assoc] at r2
  refine ⟨rfl, ⟨hB, hBg, hgb, 0, _, ?_, setRow_heap _ g cur _ 5 (0, 0) HG.out, ?_, ?_, ?_⟩, hB2.trans r2, fun x hx hxb hxg => ?_⟩
  · rw [setRow_other _ _ _ _ (Ne.symm hgb), List.length_append, HN.out]; exact HB.out
  · rw [List.length_append, HN.out]; exact hl
  · have := HC.out
    simp only [List.size_toArray, List.length_append, List.length_take, List.length_drop, Array.length_toList, hl2]; omega
  · have e2 : (List.take bs.length cur.toList).length = bs.length := by have := HC.out; have h2 := Array.length_toList (xs := cur); rw [List.length_take]; omega
    rw [List.length_append, HN.out, Lib.byteCells_append, ← HH.out]; exact take_three e2 hl2
  · rw [setRow_other _ _ _ _ hxg]; exact hbut x hx hxb hxg
end Go.Proofs.YtldjigfnagfalaaGreatDoor.Given
end
section
namespace Go.Proofs.YtldjigfnagfalaaGreatDoor.Given
open Go.RowKit Go.Proofs.YtldjigfnagfalaaGreatDoorW.PrintWords
set_option linter.unusedVariables false
theorem size_setCell (w : World) (a : Addr) (v : Value) : (w.setCell a v).heap.size = w.heap.size := by simp [World.setCell]
end Go.Proofs.YtldjigfnagfalaaGreatDoor.Given
end
section
namespace Go.Proofs.YtldjigfnagfalaaGreatDoor.Given
open Go.RowKit Go.Proofs.YtldjigfnagfalaaGreatDoorW.PrintWords
set_option linter.unusedVariables false
attribute [local go_sem] as_162_5 as_162_105 as_162_106 as_162_115 as_162_4 as_162_64 as_162_131 as_162_21 as_162_36 as_162_2 as_162_23 as_162_132 as_162_9 as_162_135 as_162_111 as_162_113 as_162_178 as_162_156 as_162_76 as_162_24 as_162_162 as_162_186 as_162_158
set_option maxHeartbeats 1000000 in
theorem newEnc (b : Nat) (q : Int) (T : TypeId) (ao : Option Addr) (l c : Nat) (w : World) :
    Calls Tryz.prog 24 #[.iface 71 (.pointer (some ⟨b, 0, none⟩)), .int .i64 q, .iface T (.agg #[]), .slice ao l c] w fun r w' => r = .returned (.pointer (some ⟨w.heap.size, 0, none⟩)) ∧ w' = w.alloc (.cells #[.iface 71 (.pointer (some ⟨b, 0, none⟩)), .slice ao l c, .iface T (.agg #[]), .int .i64 q] 94) := by
  go_enter Tryz.func24, Tryz.ntmps24
  go_wp2
  go_ret
  exact ⟨rfl, rfl⟩
set_option maxHeartbeats 1000000 in
theorem order (big : Bool) (w : World) :
    Calls Tryz.prog 25 #[.bool big] w fun r w' => r = .returned (.iface (if big then 96 else 97) (.agg #[])) ∧ w = w' := by
  cases big
  · go_enter Tryz.func25, Tryz.ntmps25
    go_wp2
    go_ret
    exact ⟨rfl, rfl⟩
  · go_enter Tryz.func25, Tryz.ntmps25
    go_wp2
    go_ret
    exact ⟨rfl, rfl⟩
set_option maxHeartbeats 8000000 in
set_option maxRecDepth 100000 in
theorem typeOf_list (p : Nat) (t : ByteArray) (hs : t.size ≤ 64) (w : World) (c0 : w.cell? ⟨p, 0, none⟩ = some (.string t)) : Calls Tryz.prog 70 #[.iface 162 (.pointer (some ⟨p, 0, none⟩))] w fun e w' => e = .returned (.string (⟨#[91]⟩ ++ t)) ∧ Below w.heap.size w w' := by
  go_enter Tryz.func70, Tryz.ntmps70
  go_wp2
  go_ret
  exact ⟨rfl, Below.refl _ _⟩
end Go.Proofs.YtldjigfnagfalaaGreatDoor.Given
end
section
namespace Go.Proofs.YtldjigfnagfalaaGreatDoor.Given
open Go.RowKit Go.Proofs.YtldjigfnagfalaaGreatDoorW.PrintWords
set_option linter.unusedVariables false
attribute [local go_sem] as_162_5 as_162_105 as_162_106 as_162_115 as_162_4 as_162_64 as_162_131 as_162_21 as_162_36 as_162_2 as_162_23 as_162_132 as_162_9 as_162_135 as_162_111 as_162_113 as_162_178 as_162_156 as_162_76 as_162_24 as_162_162 as_162_186 as_162_158
set_option maxHeartbeats 4000000 in
theorem kids_list (p : Nat) (ao : Option Addr) (l k : Nat) (w : World) (c1 : w.cell? ⟨p, 1, none⟩ = some (.slice ao l k)) : Calls Tryz.prog 87 #[.iface 162 (.pointer (some ⟨p, 0, none⟩))] w fun e w' => e = .returned (.slice ao l k) ∧ w = w' := by
  go_enter Tryz.func87, Tryz.ntmps87
  go_wp2
  go_ret
  exact ⟨rfl, rfl⟩
set_option maxHeartbeats 4000000 in
theorem len_list (p : Nat) (s : ByteArray) (ao : Option Addr) (l k : Nat) (w : World) (c1 : w.cell? ⟨p, 1, none⟩ = some (.slice ao l k)) : Calls Tryz.prog 54 #[.agg #[.iface 162 (.pointer (some ⟨p, 0, none⟩)), .string s]] w fun e w' => e = .returned (.int .i64 l) ∧ Below w.heap.size w w' := by
  have hp := block_lt_of_cell c1
  go_enter Tryz.func54, Tryz.ntmps54
  go_wp2_with (go_at_call 87; refine (kids_list p ao l k _ (((Below.refl _ _).alloc (Nat.le_refl _) _).cell (p := ⟨p, 1, none⟩) hp |>.trans c1)).mono ?_; rintro e w1 ⟨rfl, rfl⟩)
  go_ret
  exact ⟨rfl, (Below.refl _ _).alloc (Nat.le_refl _) _⟩
end Go.Proofs.YtldjigfnagfalaaGreatDoor.Given
end
section
namespace Go.Proofs.YtldjigfnagfalaaGreatDoor.Given
open Go.RowKit Go.Proofs.YtldjigfnagfalaaGreatDoorW.PrintWords
set_option linter.unusedVariables false
set_option maxHeartbeats 1000000 in
theorem padding0 (e : Nat) (q s : Int) (h0 : 0 ≤ q) (h1 : q < 4611686018427387904) (hs : s ≠ 0) (hm : q.tmod s = 0) (w : World) (c3 : w.cell? ⟨e, 3, none⟩ = some (.int .i64 q)) :
    Calls Tryz.prog 56 #[.pointer (some ⟨e, 0, none⟩), .int .i64 0, .int .i64 s] w fun r w' => r = .returned (.int .i64 0) ∧ w = w' := by
  have hw : wrap64 q = q := by unfold wrap64; omega
  have hw0 : wrap64 (q + 0) = q := by unfold wrap64; omega
  have hs0 : (s == 0) = false := by simpa using hs
  go_enter Tryz.func56, Tryz.ntmps56
  go_wp2
  go_ret
  exact ⟨rfl, rfl⟩
set_option maxHeartbeats 1000000 in
theorem align0 (e : Nat) (q s : Int) (h0 : 0 ≤ q) (h1 : q < 4611686018427387904) (hs : s ≠ 0) (hm : q.tmod s = 0) (w : World) (c3 : w.cell? ⟨e, 3, none⟩ = some (.int .i64 q)) :
    Calls Tryz.prog 41 #[.pointer (some ⟨e, 0, none⟩), .int .i64 s] w fun r w' => r = .returned (.tuple #[]) ∧ w = w' := by
  go_enter Tryz.func41, Tryz.ntmps41
  go_wp2_with (go_at_call 56; refine (padding0 e q s h0 h1 hs hm _ c3).mono ?_; rintro r w1 ⟨rfl, rfl⟩)
  refine bodyPost_end (results_none (by rfl) _ _ _) rfl ⟨rfl, rfl⟩
end Go.Proofs.YtldjigfnagfalaaGreatDoor.Given
end
section
namespace Go.Proofs.YtldjigfnagfalaaGreatDoor.Given
open Go.RowKit Go.Proofs.YtldjigfnagfalaaGreatDoorW.PrintWords
set_option linter.unusedVariables false
theorem new_lt {w w1 : World} {o : Obj} (hb : Below (w.alloc o).heap.size (w.alloc o) w1) : w.heap.size < w1.heap.size := by
  have := hb.size
  simp at this
  omega
theorem Takes.grown {w W : World} {b : Nat} {bytes : List UInt8} {R : World → Prop} (h : Takes w b bytes R) (hb : Below w.heap.size w W) : Takes W b bytes R :=
  fun W' g c hB hg hcs => h W' g c (below_step hb hB) (Nat.le_trans hb.size hg) hcs
set_option maxHeartbeats 8000000 in
set_option maxRecDepth 100000 in
theorem en_117_le (e b v : Nat) (hv : v < 4294967296) (q dep : Int) (hd0 : 0 ≤ dep) (hd : dep ≤ 64) (hq0 : 0 ≤ q) (hq1 : q < 4611686018427387904) (hm : q.tmod 4 = 0) (R : World → Prop) (w : World)
    (c0 : w.cell? ⟨e, 0, none⟩ = some (.iface 71 (.pointer (some ⟨b, 0, none⟩)))) (c2 : w.cell? ⟨e, 2, none⟩ = some (.iface 97 (.agg #[]))) (c3 : w.cell? ⟨e, 3, none⟩ = some (.int .i64 q)) (HW : Takes w b (Lib.leBytes 4 v) R)
    (hR : ∀ w', R w' → w'.cell? ⟨e, 3, none⟩ = some (.int .i64 q) ∧ w'.frozen? ⟨e, 3, none⟩ = false) :
    Calls Tryz.prog 36 #[.pointer (some ⟨e, 0, none⟩), .agg #[.iface 36 (.int .u32 v), .string ⟨#[117]⟩], .int .i64 dep] w fun r w' => r = .returned (.tuple #[]) ∧ ∃ w1, R w1 ∧ w' = w1.setCell ⟨e, 3, none⟩ (.int .i64 (q + 4)) := by
  have he := block_lt_of_cell c0
  have hw : wrap64 (q + 4) = q + 4 := by unfold wrap64; omega
  have hwv : IntKind.u32.wrap (v : Int) = v := by unfold IntKind.wrap; simp [IntKind.signed, IntKind.bits]; omega
  have HHW := Aside0.mk HW
  have HHR := Aside0.mk hR
  clear HW hR
  go_enter Tryz.func36, Tryz.ntmps36
  go_wp2_with (first
    | (go_at_call 43; refine (zType _ _ _).mono ?_; rintro r w1 ⟨rfl, hb1⟩; obtain ⟨hc1, hf1⟩ := bcell hb1; have hz1 : w.heap.size < w1.heap.size := new_lt hb1; have B1 := below_step (w := w) (by repeat (first | assumption | exact Below.refl _ _ | apply below_alloc | apply below_drew)) hb1)
    | (go_at_call 43; refine (zType _ _ _).mono ?_; rintro r w7 ⟨rfl, hb7⟩; obtain ⟨hc7, hf7⟩ := bcell hb7; have hz7 : w.heap.size < w7.heap.size := Nat.lt_of_lt_of_le hz4 hb7.size; have B7 := below_step (w := w) (by repeat (first | assumption | exact Below.refl _ _ | apply below_alloc | apply below_drew)) hb7)
    | (go_at_call 42; refine (align_117 _).mono ?_; rintro r w2 ⟨rfl, rfl⟩)
    | (go_at_call 41; refine (align0 e q 4 hq0 hq1 (by decide) hm _ ((B1.cell (p := ⟨e, 3, none⟩) he).trans c3)).mono ?_; rintro r w3 ⟨rfl, rfl⟩)
    | (go_at_call 44; refine (zKind_117 _ _).mono ?_; rintro r w4 ⟨rfl, hb4⟩; obtain ⟨hc4, hf4⟩ := bcell hb4; have hz4 : w.heap.size < w4.heap.size := Nat.lt_of_lt_of_le hz1 hb4.size; have B4 := below_step (w := w) (by repeat (first | assumption | exact Below.refl _ _ | apply below_alloc | apply below_drew)) hb4)
    | (go_at_call 45; refine (zNum_117 v (by omega) (by omega) _).mono ?_; rintro r w5 ⟨rfl, hb5⟩; obtain ⟨hc5, hf5⟩ := bcell hb5; have hz5 : w.heap.size < w5.heap.size := (by first | exact Nat.lt_of_lt_of_le hz4 hb5.size | exact Nat.lt_of_lt_of_le hz7 hb5.size); have B5 := below_step (w := w) (by repeat (first | assumption | exact Below.refl _ _ | apply below_alloc | apply below_drew)) hb5)
    | (go_at_call 47; refine (bw_u32_le e b v hv R _ ((B5.cell (p := ⟨e, 0, none⟩) he).trans c0) ((B5.cell (p := ⟨e, 2, none⟩) he).trans c2) (HHW.out.grown B5)).mono ?_; rintro r w6 ⟨rfl, hr6⟩; have HR6 := Aside0.mk hr6; obtain ⟨p6, f6⟩ := HHR.out w6 hr6; clear hr6))
  refine bodyPost_end (results_none (by rfl) _ _ _) rfl ⟨rfl, w6, HR6.out, rfl⟩
set_option maxHeartbeats 8000000 in
set_option maxRecDepth 100000 in
theorem en_117_be (e b v : Nat) (hv : v < 4294967296) (q dep : Int) (hd0 : 0 ≤ dep) (hd : dep ≤ 64) (hq0 : 0 ≤ q) (hq1 : q < 4611686018427387904) (hm : q.tmod 4 = 0) (R : World → Prop) (w : World)
    (c0 : w.cell? ⟨e, 0, none⟩ = some (.iface 71 (.pointer (some ⟨b, 0, none⟩)))) (c2 : w.cell? ⟨e, 2, none⟩ = some (.iface 96 (.agg #[]))) (c3 : w.cell? ⟨e, 3, none⟩ = some (.int .i64 q)) (HW : Takes w b (Lib.beBytes 4 v) R)
    (hR : ∀ w', R w' → w'.cell? ⟨e, 3, none⟩ = some (.int .i64 q) ∧ w'.frozen? ⟨e, 3, none⟩ = false) :
    Calls Tryz.prog 36 #[.pointer (some ⟨e, 0, none⟩), .agg #[.iface 36 (.int .u32 v), .string ⟨#[117]⟩], .int .i64 dep] w fun r w' => r = .returned (.tuple #[]) ∧ ∃ w1, R w1 ∧ w' = w1.setCell ⟨e, 3, none⟩ (.int .i64 (q + 4)) := by
  have he := block_lt_of_cell c0
  have hw : wrap64 (q + 4) = q + 4 := by unfold wrap64; omega
  have hwv : IntKind.u32.wrap (v : Int) = v := by unfold IntKind.wrap; simp [IntKind.signed, IntKind.bits]; omega
  have HHW := Aside0.mk HW
  have HHR := Aside0.mk hR
  clear HW hR
  go_enter Tryz.func36, Tryz.ntmps36
  go_wp2_with (first
    | (go_at_call 43; refine (zType _ _ _).mono ?_; rintro r w1 ⟨rfl, hb1⟩; obtain ⟨hc1, hf1⟩ := bcell hb1; have hz1 : w.heap.size < w1.heap.size := new_lt hb1; have B1 := below_step (w := w) (by repeat (first | assumption | exact Below.refl _ _ | apply below_alloc | apply below_drew)) hb1)
    | (go_at_call 43; refine (zType _ _ _).mono ?_; rintro r w7 ⟨rfl, hb7⟩; obtain ⟨hc7, hf7⟩ := bcell hb7; have hz7 : w.heap.size < w7.heap.size := Nat.lt_of_lt_of_le hz4 hb7.size; have B7 := below_step (w := w) (by repeat (first | assumption | exact Below.refl _ _ | apply below_alloc | apply below_drew)) hb7)
    | (go_at_call 42; refine (align_117 _).mono ?_; rintro r w2 ⟨rfl, rfl⟩)
    | (go_at_call 41; refine (align0 e q 4 hq0 hq1 (by decide) hm _ ((B1.cell (p := ⟨e, 3, none⟩) he).trans c3)).mono ?_; rintro r w3 ⟨rfl, rfl⟩)
    | (go_at_call 44; refine (zKind_117 _ _).mono ?_; rintro r w4 ⟨rfl, hb4⟩; obtain ⟨hc4, hf4⟩ := bcell hb4; have hz4 : w.heap.size < w4.heap.size := Nat.lt_of_lt_of_le hz1 hb4.size; have B4 := below_step (w := w) (by repeat (first | assumption | exact Below.refl _ _ | apply below_alloc | apply below_drew)) hb4)
    | (go_at_call 45; refine (zNum_117 v (by omega) (by omega) _).mono ?_; rintro r w5 ⟨rfl, hb5⟩; obtain ⟨hc5, hf5⟩ := bcell hb5; have hz5 : w.heap.size < w5.heap.size := (by first | exact Nat.lt_of_lt_of_le hz4 hb5.size | exact Nat.lt_of_lt_of_le hz7 hb5.size); have B5 := below_step (w := w) (by repeat (first | assumption | exact Below.refl _ _ | apply below_alloc | apply below_drew)) hb5)
    | (go_at_call 47; refine (bw_u32_be e b v hv R _ ((B5.cell (p := ⟨e, 0, none⟩) he).trans c0) ((B5.cell (p := ⟨e, 2, none⟩) he).trans c2) (HHW.out.grown B5)).mono ?_; rintro r w6 ⟨rfl, hr6⟩; have HR6 := Aside0.mk hr6; obtain ⟨p6, f6⟩ := HHR.out w6 hr6; clear hr6))
  refine bodyPost_end (results_none (by rfl) _ _ _) rfl ⟨rfl, w6, HR6.out, rfl⟩
end Go.Proofs.YtldjigfnagfalaaGreatDoor.Given
end

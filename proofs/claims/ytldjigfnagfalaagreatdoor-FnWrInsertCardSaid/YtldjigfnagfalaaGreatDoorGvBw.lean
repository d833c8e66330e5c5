/- (*encoder).binwrite: over what Write does. -/
import Derived.Test.YtldjigfnagfalaaGreatDoorShelf
import Derived.Test.YtldjigfnagfalaaGreatDoorGvAs
import Derived.LoopTactic
import Derived.Deep.QuietTactic
import Derived.BigQuiet
import Derived.Deep.RegionWith
import Derived.Lib.EndianMore
import Derived.Laws.IdiomCopy
import Derived.Lib.Buffer
namespace Go.Proofs.YtldjigfnagfalaaGreatDoor.Given
open Go.RowKit Go.Proofs.YtldjigfnagfalaaGreatDoorW.PrintWords
set_option linter.unusedVariables false
attribute [local go_sem] as_5_5 as_5_105 as_5_106 as_5_115 as_5_4 as_5_64 as_5_131 as_5_21 as_5_36 as_5_2 as_5_23 as_5_132 as_5_9 as_5_135 as_5_111 as_5_113 as_5_178 as_5_156 as_5_76 as_5_24 as_5_162 as_5_186 as_5_158 as_64_5
attribute [local go_sem] as_64_105 as_64_106 as_64_115 as_64_4 as_64_64 as_64_131 as_64_21 as_64_36 as_64_2 as_64_23 as_64_132 as_64_9 as_64_135 as_64_111 as_64_113 as_64_178 as_64_156 as_64_76 as_64_24 as_64_162 as_64_186 as_64_158 as_131_5 as_131_105
attribute [local go_sem] as_131_106 as_131_115 as_131_4 as_131_64 as_131_131 as_131_21 as_131_36 as_131_2 as_131_23 as_131_132 as_131_9 as_131_135 as_131_111 as_131_113 as_131_178 as_131_156 as_131_76 as_131_24 as_131_162 as_131_186 as_131_158 as_21_5 as_21_105 as_21_106
attribute [local go_sem] as_21_115 as_21_4 as_21_64 as_21_131 as_21_21 as_21_36 as_21_2 as_21_23 as_21_132 as_21_9 as_21_135 as_21_111 as_21_113 as_21_178 as_21_156 as_21_76 as_21_24 as_21_162 as_21_186 as_21_158 as_36_5 as_36_105 as_36_106 as_36_115
attribute [local go_sem] as_36_4 as_36_64 as_36_131 as_36_21 as_36_36 as_36_2 as_36_23 as_36_132 as_36_9 as_36_135 as_36_111 as_36_113 as_36_178 as_36_156 as_36_76 as_36_24 as_36_162 as_36_186 as_36_158 as_2_5 as_2_105 as_2_106 as_2_115 as_2_4
attribute [local go_sem] as_2_64 as_2_131 as_2_21 as_2_36 as_2_2 as_2_23 as_2_132 as_2_9 as_2_135 as_2_111 as_2_113 as_2_178 as_2_156 as_2_76 as_2_24 as_2_162 as_2_186 as_2_158 as_23_5 as_23_105 as_23_106 as_23_115 as_23_4 as_23_64
attribute [local go_sem] as_23_131 as_23_21 as_23_36 as_23_2 as_23_23 as_23_132 as_23_9 as_23_135 as_23_111 as_23_113 as_23_178 as_23_156 as_23_76 as_23_24 as_23_162 as_23_186 as_23_158 as_132_5 as_132_105 as_132_106 as_132_115 as_132_4 as_132_64 as_132_131
attribute [local go_sem] as_132_21 as_132_36 as_132_2 as_132_23 as_132_132 as_132_9 as_132_135 as_132_111 as_132_113 as_132_178 as_132_156 as_132_76 as_132_24 as_132_162 as_132_186 as_132_158 as_156_5 as_156_105 as_156_106 as_156_115 as_156_4 as_156_64 as_156_131 as_156_21
attribute [local go_sem] as_156_36 as_156_2 as_156_23 as_156_132 as_156_9 as_156_135 as_156_111 as_156_113 as_156_178 as_156_156 as_156_76 as_156_24 as_156_162 as_156_186 as_156_158 as_162_5 as_162_105 as_162_106 as_162_115 as_162_4 as_162_64 as_162_131 as_162_21 as_162_36
attribute [local go_sem] as_162_2 as_162_23 as_162_132 as_162_9 as_162_135 as_162_111 as_162_113 as_162_178 as_162_156 as_162_76 as_162_24 as_162_162 as_162_186 as_162_158 ai_5 ai_64 ai_131 ai_21 ai_36 ai_2 ai_23 ai_132 ai_156 ai_162

theorem mk2 (W : World) : (Instr.makeSlice 24 (.int .i64 2) (.int .i64 2)).run Tryz.prog W = .ok (.slice (some ⟨W.heap.size, 0, none⟩) 2 2) (W.alloc (.cells #[.int .u8 0, .int .u8 0] 5)) := by kernel_rfl
theorem mk4 (W : World) : (Instr.makeSlice 24 (.int .i64 4) (.int .i64 4)).run Tryz.prog W = .ok (.slice (some ⟨W.heap.size, 0, none⟩) 4 4) (W.alloc (.cells #[.int .u8 0, .int .u8 0, .int .u8 0, .int .u8 0] 5)) := by kernel_rfl
theorem mk8 (W : World) : (Instr.makeSlice 24 (.int .i64 8) (.int .i64 8)).run Tryz.prog W = .ok (.slice (some ⟨W.heap.size, 0, none⟩) 8 8) (W.alloc (.cells #[.int .u8 0, .int .u8 0, .int .u8 0, .int .u8 0, .int .u8 0, .int .u8 0, .int .u8 0, .int .u8 0] 5)) := by kernel_rfl
attribute [local go_sem] mk2 mk4 mk8
theorem me_le16 (W : World) : (method 337 97 (.agg #[]) "PutUint16").run Tryz.prog W = .ok (140, .agg #[]) W := by kernel_rfl
theorem me_le32 (W : World) : (method 337 97 (.agg #[]) "PutUint32").run Tryz.prog W = .ok (141, .agg #[]) W := by kernel_rfl
theorem me_le64 (W : World) : (method 337 97 (.agg #[]) "PutUint64").run Tryz.prog W = .ok (142, .agg #[]) W := by kernel_rfl
theorem me_be16 (W : World) : (method 337 96 (.agg #[]) "PutUint16").run Tryz.prog W = .ok (132, .agg #[]) W := by kernel_rfl
theorem me_be32 (W : World) : (method 337 96 (.agg #[]) "PutUint32").run Tryz.prog W = .ok (133, .agg #[]) W := by kernel_rfl
theorem me_be64 (W : World) : (method 337 96 (.agg #[]) "PutUint64").run Tryz.prog W = .ok (134, .agg #[]) W := by kernel_rfl
theorem me_write (p : Value) (W : World) : (method 337 71 p "Write").run Tryz.prog W = .ok (124, p) W := by kernel_rfl
attribute [local go_sem] me_le16 me_le32 me_le64 me_be16 me_be32 me_be64 me_write
theorem put_facts (w : World) (zs : Array Value) (bytes : List UInt8) (o2 : Obj) (hl : bytes.length = zs.size) :
    Below w.heap.size w (((w.alloc (.cells zs 5)).alloc o2).setCells w.heap.size 0 (Lib.byteCells bytes)) ∧ ∀ j v, (Lib.byteCells bytes)[j]? = some v → (((w.alloc (.cells zs 5)).alloc o2).setCells w.heap.size 0 (Lib.byteCells bytes)).cell? ((⟨w.heap.size, 0, none⟩ : Addr).add j) = some v := by
  constructor
  · exact (((Below.refl _ _).alloc (Nat.le_refl _) _).alloc (by simp) _).trans (Lib.below_setCells_w (Nat.le_refl _) _ _ _)
  · intro j v hj
    obtain ⟨hj1, hj2⟩ := List.getElem?_eq_some_iff.1 hj
    rw [Lib.addr_add]
    rw [World.cell?_setCells_in w.heap.size (Lib.byteCells bytes) 0 _ ?_ j hj1, hj2]
    intro i hi
    have hi' : i < zs.size := by rw [Lib.byteCells_length] at hi; omega
    have hc : ((w.alloc (.cells zs 5)).alloc o2).heap[w.heap.size]? = some (.cells zs 5 (0, 0)) := by rw [Below.heap_alloc _ _ _ (by simp)]; exact heap_alloc_new w _
    rw [Nat.zero_add, Lib.cell_of_heap hc, Array.getElem?_eq_getElem hi']
    rfl
theorem put_facts_d (w : World) (zs : Array Value) (bytes : List UInt8) (o2 : Obj) (hl : bytes.length = zs.size) :
    Below w.heap.size w (((w.alloc (.cells zs 5)).drew.alloc o2).setCells w.heap.size 0 (Lib.byteCells bytes)) ∧ ∀ j v, (Lib.byteCells bytes)[j]? = some v → (((w.alloc (.cells zs 5)).drew.alloc o2).setCells w.heap.size 0 (Lib.byteCells bytes)).cell? ((⟨w.heap.size, 0, none⟩ : Addr).add j) = some v := by
  constructor
  · exact ((Below.drew ((Below.refl _ _).alloc (Nat.le_refl _) _)).alloc (by simp) _).trans (Lib.below_setCells_w (Nat.le_refl _) _ _ _)
  · intro j v hj
    obtain ⟨hj1, hj2⟩ := List.getElem?_eq_some_iff.1 hj
    rw [Lib.addr_add]
    rw [World.cell?_setCells_in w.heap.size (Lib.byteCells bytes) 0 _ ?_ j hj1, hj2]
    intro i hi
    have hi' : i < zs.size := by rw [Lib.byteCells_length] at hi; omega
    have hc : ((w.alloc (.cells zs 5)).drew.alloc o2).heap[w.heap.size]? = some (.cells zs 5 (0, 0)) := by rw [Below.heap_alloc _ _ _ (by simp)]; exact heap_alloc_new w _
    rw [Nat.zero_add, Lib.cell_of_heap hc, Array.getElem?_eq_getElem hi']
    rfl
theorem cf82 (b : Nat) (W : World) : (callFunc 82 #[.float .f64 b]).run Tryz.prog W = .ok (.value (.int .u64 b)) W := by kernel_rfl
attribute [local go_sem] cf82
/-- Write takes these bytes, from a world that w has grown to. -/
def Takes (w : World) (b : Nat) (bytes : List UInt8) (R : World → Prop) : Prop :=
  ∀ W g c, Below w.heap.size w W → w.heap.size ≤ g → (∀ j v, (Lib.byteCells bytes)[j]? = some v → W.cell? ((⟨g, 0, none⟩ : Addr).add j) = some v) →
    Calls Tryz.prog 124 #[.pointer (some ⟨b, 0, none⟩), .slice (some ⟨g, 0, none⟩) bytes.length c] W fun e w' => e = .returned (.tuple #[.int .i64 bytes.length, .nilIface]) ∧ R w'

set_option maxHeartbeats 4000000 in
set_option maxRecDepth 100000 in
theorem bw_i16_le (e b v : Nat) (hv : v < 65536) (x : Int) (hx : IntKind.u16.wrap x = (v : Int)) (R : World → Prop) (w : World) (c0 : w.cell? ⟨e, 0, none⟩ = some (.iface 71 (.pointer (some ⟨b, 0, none⟩)))) (c2 : w.cell? ⟨e, 2, none⟩ = some (.iface 97 (.agg #[]))) (HW : Takes w b (Lib.leBytes 2 v) R) :
    Calls Tryz.prog 47 #[.pointer (some ⟨e, 0, none⟩), .iface 64 (.int .i16 x)] w fun r w' => r = .returned (.tuple #[]) ∧ R w' := by
  have he := block_lt_of_cell c0
  have HHW := Aside0.mk HW
  clear HW
  go_enter Tryz.func47, Tryz.ntmps47
  go_wp2_with (first
    | (go_at_call 140; refine (Tryz.binary_LE_PutUint16 w.heap.size 0 2 2 v hv (.int .u8 0) (.int .u8 0) _ (Nat.le_refl _) (by simp) (by simp) (by simp) (by simp) ).mono ?_; rintro r w1 ⟨rfl, hw1⟩; obtain ⟨hb, hcs⟩ := put_facts w #[.int .u8 0, .int .u8 0] (Lib.leBytes 2 v) (.cells #[] 97) (Lib.leBytes_length 2 v); rw [← hw1] at hb hcs; have HCS := Aside0.mk hcs; have HB := Aside0.mk hb; have c0' : w1.cell? ⟨e, 0, none⟩ = some (.iface 71 (.pointer (some ⟨b, 0, none⟩))) := (hb.cell (p := ⟨e, 0, none⟩) he).trans c0; clear hw1 hb hcs)
    | (go_at_call 124; have hW := HHW.out w1 w.heap.size 2 HB.out (Nat.le_refl _) HCS.out; rw [Lib.leBytes_length 2 v] at hW; refine hW.mono ?_; rintro r w2 ⟨rfl, hR⟩))
  refine bodyPost_end (results_none (by rfl) _ _ _) rfl ⟨rfl, hR⟩

set_option maxHeartbeats 4000000 in
set_option maxRecDepth 100000 in
theorem bw_i16_be (e b v : Nat) (hv : v < 65536) (x : Int) (hx : IntKind.u16.wrap x = (v : Int)) (R : World → Prop) (w : World) (c0 : w.cell? ⟨e, 0, none⟩ = some (.iface 71 (.pointer (some ⟨b, 0, none⟩)))) (c2 : w.cell? ⟨e, 2, none⟩ = some (.iface 96 (.agg #[]))) (HW : Takes w b (Lib.beBytes 2 v) R) :
    Calls Tryz.prog 47 #[.pointer (some ⟨e, 0, none⟩), .iface 64 (.int .i16 x)] w fun r w' => r = .returned (.tuple #[]) ∧ R w' := by
  have he := block_lt_of_cell c0
  have HHW := Aside0.mk HW
  clear HW
  go_enter Tryz.func47, Tryz.ntmps47
  go_wp2_with (first
    | (go_at_call 132; refine (Tryz.binary_BE_PutUint16 w.heap.size 0 2 2 v hv (.int .u8 0) (.int .u8 0) _ (Nat.le_refl _) (by simp) (by simp) (by simp) (by simp) ).mono ?_; rintro r w1 ⟨rfl, hw1⟩; obtain ⟨hb, hcs⟩ := put_facts w #[.int .u8 0, .int .u8 0] (Lib.beBytes 2 v) (.cells #[] 96) (Lib.beBytes_length 2 v); rw [← hw1] at hb hcs; have HCS := Aside0.mk hcs; have HB := Aside0.mk hb; have c0' : w1.cell? ⟨e, 0, none⟩ = some (.iface 71 (.pointer (some ⟨b, 0, none⟩))) := (hb.cell (p := ⟨e, 0, none⟩) he).trans c0; clear hw1 hb hcs)
    | (go_at_call 124; have hW := HHW.out w1 w.heap.size 2 HB.out (Nat.le_refl _) HCS.out; rw [Lib.beBytes_length 2 v] at hW; refine hW.mono ?_; rintro r w2 ⟨rfl, hR⟩))
  refine bodyPost_end (results_none (by rfl) _ _ _) rfl ⟨rfl, hR⟩

set_option maxHeartbeats 4000000 in
set_option maxRecDepth 100000 in
theorem bw_u16_le (e b v : Nat) (hv : v < 65536) (R : World → Prop) (w : World) (c0 : w.cell? ⟨e, 0, none⟩ = some (.iface 71 (.pointer (some ⟨b, 0, none⟩)))) (c2 : w.cell? ⟨e, 2, none⟩ = some (.iface 97 (.agg #[]))) (HW : Takes w b (Lib.leBytes 2 v) R) :
    Calls Tryz.prog 47 #[.pointer (some ⟨e, 0, none⟩), .iface 131 (.int .u16 v)] w fun r w' => r = .returned (.tuple #[]) ∧ R w' := by
  have he := block_lt_of_cell c0
  have HHW := Aside0.mk HW
  clear HW
  go_enter Tryz.func47, Tryz.ntmps47
  go_wp2_with (first
    | (go_at_call 140; refine (Tryz.binary_LE_PutUint16 w.heap.size 0 2 2 v hv (.int .u8 0) (.int .u8 0) _ (Nat.le_refl _) (by simp) (by simp) (by simp) (by simp) ).mono ?_; rintro r w1 ⟨rfl, hw1⟩; obtain ⟨hb, hcs⟩ := put_facts w #[.int .u8 0, .int .u8 0] (Lib.leBytes 2 v) (.cells #[] 97) (Lib.leBytes_length 2 v); rw [← hw1] at hb hcs; have HCS := Aside0.mk hcs; have HB := Aside0.mk hb; have c0' : w1.cell? ⟨e, 0, none⟩ = some (.iface 71 (.pointer (some ⟨b, 0, none⟩))) := (hb.cell (p := ⟨e, 0, none⟩) he).trans c0; clear hw1 hb hcs)
    | (go_at_call 124; have hW := HHW.out w1 w.heap.size 2 HB.out (Nat.le_refl _) HCS.out; rw [Lib.leBytes_length 2 v] at hW; refine hW.mono ?_; rintro r w2 ⟨rfl, hR⟩))
  refine bodyPost_end (results_none (by rfl) _ _ _) rfl ⟨rfl, hR⟩

set_option maxHeartbeats 4000000 in
set_option maxRecDepth 100000 in
theorem bw_u16_be (e b v : Nat) (hv : v < 65536) (R : World → Prop) (w : World) (c0 : w.cell? ⟨e, 0, none⟩ = some (.iface 71 (.pointer (some ⟨b, 0, none⟩)))) (c2 : w.cell? ⟨e, 2, none⟩ = some (.iface 96 (.agg #[]))) (HW : Takes w b (Lib.beBytes 2 v) R) :
    Calls Tryz.prog 47 #[.pointer (some ⟨e, 0, none⟩), .iface 131 (.int .u16 v)] w fun r w' => r = .returned (.tuple #[]) ∧ R w' := by
  have he := block_lt_of_cell c0
  have HHW := Aside0.mk HW
  clear HW
  go_enter Tryz.func47, Tryz.ntmps47
  go_wp2_with (first
    | (go_at_call 132; refine (Tryz.binary_BE_PutUint16 w.heap.size 0 2 2 v hv (.int .u8 0) (.int .u8 0) _ (Nat.le_refl _) (by simp) (by simp) (by simp) (by simp) ).mono ?_; rintro r w1 ⟨rfl, hw1⟩; obtain ⟨hb, hcs⟩ := put_facts w #[.int .u8 0, .int .u8 0] (Lib.beBytes 2 v) (.cells #[] 96) (Lib.beBytes_length 2 v); rw [← hw1] at hb hcs; have HCS := Aside0.mk hcs; have HB := Aside0.mk hb; have c0' : w1.cell? ⟨e, 0, none⟩ = some (.iface 71 (.pointer (some ⟨b, 0, none⟩))) := (hb.cell (p := ⟨e, 0, none⟩) he).trans c0; clear hw1 hb hcs)
    | (go_at_call 124; have hW := HHW.out w1 w.heap.size 2 HB.out (Nat.le_refl _) HCS.out; rw [Lib.beBytes_length 2 v] at hW; refine hW.mono ?_; rintro r w2 ⟨rfl, hR⟩))
  refine bodyPost_end (results_none (by rfl) _ _ _) rfl ⟨rfl, hR⟩

set_option maxHeartbeats 4000000 in
set_option maxRecDepth 100000 in
theorem bw_i32_le (e b v : Nat) (hv : v < 4294967296) (x : Int) (hx : IntKind.u32.wrap x = (v : Int)) (R : World → Prop) (w : World) (c0 : w.cell? ⟨e, 0, none⟩ = some (.iface 71 (.pointer (some ⟨b, 0, none⟩)))) (c2 : w.cell? ⟨e, 2, none⟩ = some (.iface 97 (.agg #[]))) (HW : Takes w b (Lib.leBytes 4 v) R) :
    Calls Tryz.prog 47 #[.pointer (some ⟨e, 0, none⟩), .iface 21 (.int .i32 x)] w fun r w' => r = .returned (.tuple #[]) ∧ R w' := by
  have he := block_lt_of_cell c0
  have HHW := Aside0.mk HW
  clear HW
  go_enter Tryz.func47, Tryz.ntmps47
  go_wp2_with (first
    | (go_at_call 141; refine (Tryz.binary_LE_PutUint32 w.heap.size 0 4 4 v hv (.int .u8 0) (.int .u8 0) (.int .u8 0) (.int .u8 0) _ (Nat.le_refl _) (by simp) (by simp) (by simp) (by simp) (by simp) (by simp) (by simp) (by simp) ).mono ?_; rintro r w1 ⟨rfl, hw1⟩; obtain ⟨hb, hcs⟩ := put_facts w #[.int .u8 0, .int .u8 0, .int .u8 0, .int .u8 0] (Lib.leBytes 4 v) (.cells #[] 97) (Lib.leBytes_length 4 v); rw [← hw1] at hb hcs; have HCS := Aside0.mk hcs; have HB := Aside0.mk hb; have c0' : w1.cell? ⟨e, 0, none⟩ = some (.iface 71 (.pointer (some ⟨b, 0, none⟩))) := (hb.cell (p := ⟨e, 0, none⟩) he).trans c0; clear hw1 hb hcs)
    | (go_at_call 124; have hW := HHW.out w1 w.heap.size 4 HB.out (Nat.le_refl _) HCS.out; rw [Lib.leBytes_length 4 v] at hW; refine hW.mono ?_; rintro r w2 ⟨rfl, hR⟩))
  refine bodyPost_end (results_none (by rfl) _ _ _) rfl ⟨rfl, hR⟩

set_option maxHeartbeats 4000000 in
set_option maxRecDepth 100000 in
theorem bw_i32_be (e b v : Nat) (hv : v < 4294967296) (x : Int) (hx : IntKind.u32.wrap x = (v : Int)) (R : World → Prop) (w : World) (c0 : w.cell? ⟨e, 0, none⟩ = some (.iface 71 (.pointer (some ⟨b, 0, none⟩)))) (c2 : w.cell? ⟨e, 2, none⟩ = some (.iface 96 (.agg #[]))) (HW : Takes w b (Lib.beBytes 4 v) R) :
    Calls Tryz.prog 47 #[.pointer (some ⟨e, 0, none⟩), .iface 21 (.int .i32 x)] w fun r w' => r = .returned (.tuple #[]) ∧ R w' := by
  have he := block_lt_of_cell c0
  have HHW := Aside0.mk HW
  clear HW
  go_enter Tryz.func47, Tryz.ntmps47
  go_wp2_with (first
    | (go_at_call 133; refine (Tryz.binary_BE_PutUint32 w.heap.size 0 4 4 v hv (.int .u8 0) (.int .u8 0) (.int .u8 0) (.int .u8 0) _ (Nat.le_refl _) (by simp) (by simp) (by simp) (by simp) (by simp) (by simp) (by simp) (by simp) ).mono ?_; rintro r w1 ⟨rfl, hw1⟩; obtain ⟨hb, hcs⟩ := put_facts w #[.int .u8 0, .int .u8 0, .int .u8 0, .int .u8 0] (Lib.beBytes 4 v) (.cells #[] 96) (Lib.beBytes_length 4 v); rw [← hw1] at hb hcs; have HCS := Aside0.mk hcs; have HB := Aside0.mk hb; have c0' : w1.cell? ⟨e, 0, none⟩ = some (.iface 71 (.pointer (some ⟨b, 0, none⟩))) := (hb.cell (p := ⟨e, 0, none⟩) he).trans c0; clear hw1 hb hcs)
    | (go_at_call 124; have hW := HHW.out w1 w.heap.size 4 HB.out (Nat.le_refl _) HCS.out; rw [Lib.beBytes_length 4 v] at hW; refine hW.mono ?_; rintro r w2 ⟨rfl, hR⟩))
  refine bodyPost_end (results_none (by rfl) _ _ _) rfl ⟨rfl, hR⟩

set_option maxHeartbeats 4000000 in
set_option maxRecDepth 100000 in
theorem bw_u32_le (e b v : Nat) (hv : v < 4294967296) (R : World → Prop) (w : World) (c0 : w.cell? ⟨e, 0, none⟩ = some (.iface 71 (.pointer (some ⟨b, 0, none⟩)))) (c2 : w.cell? ⟨e, 2, none⟩ = some (.iface 97 (.agg #[]))) (HW : Takes w b (Lib.leBytes 4 v) R) :
    Calls Tryz.prog 47 #[.pointer (some ⟨e, 0, none⟩), .iface 36 (.int .u32 v)] w fun r w' => r = .returned (.tuple #[]) ∧ R w' := by
  have he := block_lt_of_cell c0
  have HHW := Aside0.mk HW
  clear HW
  go_enter Tryz.func47, Tryz.ntmps47
  go_wp2_with (first
    | (go_at_call 141; refine (Tryz.binary_LE_PutUint32 w.heap.size 0 4 4 v hv (.int .u8 0) (.int .u8 0) (.int .u8 0) (.int .u8 0) _ (Nat.le_refl _) (by simp) (by simp) (by simp) (by simp) (by simp) (by simp) (by simp) (by simp) ).mono ?_; rintro r w1 ⟨rfl, hw1⟩; obtain ⟨hb, hcs⟩ := put_facts w #[.int .u8 0, .int .u8 0, .int .u8 0, .int .u8 0] (Lib.leBytes 4 v) (.cells #[] 97) (Lib.leBytes_length 4 v); rw [← hw1] at hb hcs; have HCS := Aside0.mk hcs; have HB := Aside0.mk hb; have c0' : w1.cell? ⟨e, 0, none⟩ = some (.iface 71 (.pointer (some ⟨b, 0, none⟩))) := (hb.cell (p := ⟨e, 0, none⟩) he).trans c0; clear hw1 hb hcs)
    | (go_at_call 124; have hW := HHW.out w1 w.heap.size 4 HB.out (Nat.le_refl _) HCS.out; rw [Lib.leBytes_length 4 v] at hW; refine hW.mono ?_; rintro r w2 ⟨rfl, hR⟩))
  refine bodyPost_end (results_none (by rfl) _ _ _) rfl ⟨rfl, hR⟩

set_option maxHeartbeats 4000000 in
set_option maxRecDepth 100000 in
theorem bw_u32_be (e b v : Nat) (hv : v < 4294967296) (R : World → Prop) (w : World) (c0 : w.cell? ⟨e, 0, none⟩ = some (.iface 71 (.pointer (some ⟨b, 0, none⟩)))) (c2 : w.cell? ⟨e, 2, none⟩ = some (.iface 96 (.agg #[]))) (HW : Takes w b (Lib.beBytes 4 v) R) :
    Calls Tryz.prog 47 #[.pointer (some ⟨e, 0, none⟩), .iface 36 (.int .u32 v)] w fun r w' => r = .returned (.tuple #[]) ∧ R w' := by
  have he := block_lt_of_cell c0
  have HHW := Aside0.mk HW
  clear HW
  go_enter Tryz.func47, Tryz.ntmps47
  go_wp2_with (first
    | (go_at_call 133; refine (Tryz.binary_BE_PutUint32 w.heap.size 0 4 4 v hv (.int .u8 0) (.int .u8 0) (.int .u8 0) (.int .u8 0) _ (Nat.le_refl _) (by simp) (by simp) (by simp) (by simp) (by simp) (by simp) (by simp) (by simp) ).mono ?_; rintro r w1 ⟨rfl, hw1⟩; obtain ⟨hb, hcs⟩ := put_facts w #[.int .u8 0, .int .u8 0, .int .u8 0, .int .u8 0] (Lib.beBytes 4 v) (.cells #[] 96) (Lib.beBytes_length 4 v); rw [← hw1] at hb hcs; have HCS := Aside0.mk hcs; have HB := Aside0.mk hb; have c0' : w1.cell? ⟨e, 0, none⟩ = some (.iface 71 (.pointer (some ⟨b, 0, none⟩))) := (hb.cell (p := ⟨e, 0, none⟩) he).trans c0; clear hw1 hb hcs)
    | (go_at_call 124; have hW := HHW.out w1 w.heap.size 4 HB.out (Nat.le_refl _) HCS.out; rw [Lib.beBytes_length 4 v] at hW; refine hW.mono ?_; rintro r w2 ⟨rfl, hR⟩))
  refine bodyPost_end (results_none (by rfl) _ _ _) rfl ⟨rfl, hR⟩

set_option maxHeartbeats 4000000 in
set_option maxRecDepth 100000 in
theorem bw_i64_le (e b v : Nat) (hv : v < 18446744073709551616) (x : Int) (hx : IntKind.u64.wrap x = (v : Int)) (R : World → Prop) (w : World) (c0 : w.cell? ⟨e, 0, none⟩ = some (.iface 71 (.pointer (some ⟨b, 0, none⟩)))) (c2 : w.cell? ⟨e, 2, none⟩ = some (.iface 97 (.agg #[]))) (HW : Takes w b (Lib.leBytes 8 v) R) :
    Calls Tryz.prog 47 #[.pointer (some ⟨e, 0, none⟩), .iface 2 (.int .i64 x)] w fun r w' => r = .returned (.tuple #[]) ∧ R w' := by
  have he := block_lt_of_cell c0
  have HHW := Aside0.mk HW
  clear HW
  go_enter Tryz.func47, Tryz.ntmps47
  go_wp2_with (first
    | (go_at_call 142; refine (Tryz.binary_LE_PutUint64 w.heap.size 0 8 8 v hv (.int .u8 0) (.int .u8 0) (.int .u8 0) (.int .u8 0) (.int .u8 0) (.int .u8 0) (.int .u8 0) (.int .u8 0) _ (Nat.le_refl _) (by simp) (by simp) (by simp) (by simp) (by simp) (by simp) (by simp) (by simp) (by simp) (by simp) (by simp) (by simp) (by simp) (by simp) (by simp) (by simp) ).mono ?_; rintro r w1 ⟨rfl, hw1⟩; obtain ⟨hb, hcs⟩ := put_facts w #[.int .u8 0, .int .u8 0, .int .u8 0, .int .u8 0, .int .u8 0, .int .u8 0, .int .u8 0, .int .u8 0] (Lib.leBytes 8 v) (.cells #[] 97) (Lib.leBytes_length 8 v); rw [← hw1] at hb hcs; have HCS := Aside0.mk hcs; have HB := Aside0.mk hb; have c0' : w1.cell? ⟨e, 0, none⟩ = some (.iface 71 (.pointer (some ⟨b, 0, none⟩))) := (hb.cell (p := ⟨e, 0, none⟩) he).trans c0; clear hw1 hb hcs)
    | (go_at_call 124; have hW := HHW.out w1 w.heap.size 8 HB.out (Nat.le_refl _) HCS.out; rw [Lib.leBytes_length 8 v] at hW; refine hW.mono ?_; rintro r w2 ⟨rfl, hR⟩))
  refine bodyPost_end (results_none (by rfl) _ _ _) rfl ⟨rfl, hR⟩

set_option maxHeartbeats 4000000 in
set_option maxRecDepth 100000 in
theorem bw_i64_be (e b v : Nat) (hv : v < 18446744073709551616) (x : Int) (hx : IntKind.u64.wrap x = (v : Int)) (R : World → Prop) (w : World) (c0 : w.cell? ⟨e, 0, none⟩ = some (.iface 71 (.pointer (some ⟨b, 0, none⟩)))) (c2 : w.cell? ⟨e, 2, none⟩ = some (.iface 96 (.agg #[]))) (HW : Takes w b (Lib.beBytes 8 v) R) :
    Calls Tryz.prog 47 #[.pointer (some ⟨e, 0, none⟩), .iface 2 (.int .i64 x)] w fun r w' => r = .returned (.tuple #[]) ∧ R w' := by
  have he := block_lt_of_cell c0
  have HHW := Aside0.mk HW
  clear HW
  go_enter Tryz.func47, Tryz.ntmps47
  go_wp2_with (first
    | (go_at_call 134; refine (Tryz.binary_BE_PutUint64 w.heap.size 0 8 8 v hv (.int .u8 0) (.int .u8 0) (.int .u8 0) (.int .u8 0) (.int .u8 0) (.int .u8 0) (.int .u8 0) (.int .u8 0) _ (Nat.le_refl _) (by simp) (by simp) (by simp) (by simp) (by simp) (by simp) (by simp) (by simp) (by simp) (by simp) (by simp) (by simp) (by simp) (by simp) (by simp) (by simp) ).mono ?_; rintro r w1 ⟨rfl, hw1⟩; obtain ⟨hb, hcs⟩ := put_facts w #[.int .u8 0, .int .u8 0, .int .u8 0, .int .u8 0, .int .u8 0, .int .u8 0, .int .u8 0, .int .u8 0] (Lib.beBytes 8 v) (.cells #[] 96) (Lib.beBytes_length 8 v); rw [← hw1] at hb hcs; have HCS := Aside0.mk hcs; have HB := Aside0.mk hb; have c0' : w1.cell? ⟨e, 0, none⟩ = some (.iface 71 (.pointer (some ⟨b, 0, none⟩))) := (hb.cell (p := ⟨e, 0, none⟩) he).trans c0; clear hw1 hb hcs)
    | (go_at_call 124; have hW := HHW.out w1 w.heap.size 8 HB.out (Nat.le_refl _) HCS.out; rw [Lib.beBytes_length 8 v] at hW; refine hW.mono ?_; rintro r w2 ⟨rfl, hR⟩))
  refine bodyPost_end (results_none (by rfl) _ _ _) rfl ⟨rfl, hR⟩

set_option maxHeartbeats 4000000 in
set_option maxRecDepth 100000 in
theorem bw_u64_le (e b v : Nat) (hv : v < 18446744073709551616) (R : World → Prop) (w : World) (c0 : w.cell? ⟨e, 0, none⟩ = some (.iface 71 (.pointer (some ⟨b, 0, none⟩)))) (c2 : w.cell? ⟨e, 2, none⟩ = some (.iface 97 (.agg #[]))) (HW : Takes w b (Lib.leBytes 8 v) R) :
    Calls Tryz.prog 47 #[.pointer (some ⟨e, 0, none⟩), .iface 23 (.int .u64 v)] w fun r w' => r = .returned (.tuple #[]) ∧ R w' := by
  have he := block_lt_of_cell c0
  have HHW := Aside0.mk HW
  clear HW
  go_enter Tryz.func47, Tryz.ntmps47
  go_wp2_with (first
    | (go_at_call 142; refine (Tryz.binary_LE_PutUint64 w.heap.size 0 8 8 v hv (.int .u8 0) (.int .u8 0) (.int .u8 0) (.int .u8 0) (.int .u8 0) (.int .u8 0) (.int .u8 0) (.int .u8 0) _ (Nat.le_refl _) (by simp) (by simp) (by simp) (by simp) (by simp) (by simp) (by simp) (by simp) (by simp) (by simp) (by simp) (by simp) (by simp) (by simp) (by simp) (by simp) ).mono ?_; rintro r w1 ⟨rfl, hw1⟩; obtain ⟨hb, hcs⟩ := put_facts w #[.int .u8 0, .int .u8 0, .int .u8 0, .int .u8 0, .int .u8 0, .int .u8 0, .int .u8 0, .int .u8 0] (Lib.leBytes 8 v) (.cells #[] 97) (Lib.leBytes_length 8 v); rw [← hw1] at hb hcs; have HCS := Aside0.mk hcs; have HB := Aside0.mk hb; have c0' : w1.cell? ⟨e, 0, none⟩ = some (.iface 71 (.pointer (some ⟨b, 0, none⟩))) := (hb.cell (p := ⟨e, 0, none⟩) he).trans c0; clear hw1 hb hcs)
    | (go_at_call 124; have hW := HHW.out w1 w.heap.size 8 HB.out (Nat.le_refl _) HCS.out; rw [Lib.leBytes_length 8 v] at hW; refine hW.mono ?_; rintro r w2 ⟨rfl, hR⟩))
  refine bodyPost_end (results_none (by rfl) _ _ _) rfl ⟨rfl, hR⟩

set_option maxHeartbeats 4000000 in
set_option maxRecDepth 100000 in
theorem bw_u64_be (e b v : Nat) (hv : v < 18446744073709551616) (R : World → Prop) (w : World) (c0 : w.cell? ⟨e, 0, none⟩ = some (.iface 71 (.pointer (some ⟨b, 0, none⟩)))) (c2 : w.cell? ⟨e, 2, none⟩ = some (.iface 96 (.agg #[]))) (HW : Takes w b (Lib.beBytes 8 v) R) :
    Calls Tryz.prog 47 #[.pointer (some ⟨e, 0, none⟩), .iface 23 (.int .u64 v)] w fun r w' => r = .returned (.tuple #[]) ∧ R w' := by
  have he := block_lt_of_cell c0
  have HHW := Aside0.mk HW
  clear HW
  go_enter Tryz.func47, Tryz.ntmps47
  go_wp2_with (first
    | (go_at_call 134; refine (Tryz.binary_BE_PutUint64 w.heap.size 0 8 8 v hv (.int .u8 0) (.int .u8 0) (.int .u8 0) (.int .u8 0) (.int .u8 0) (.int .u8 0) (.int .u8 0) (.int .u8 0) _ (Nat.le_refl _) (by simp) (by simp) (by simp) (by simp) (by simp) (by simp) (by simp) (by simp) (by simp) (by simp) (by simp) (by simp) (by simp) (by simp) (by simp) (by simp) ).mono ?_; rintro r w1 ⟨rfl, hw1⟩; obtain ⟨hb, hcs⟩ := put_facts w #[.int .u8 0, .int .u8 0, .int .u8 0, .int .u8 0, .int .u8 0, .int .u8 0, .int .u8 0, .int .u8 0] (Lib.beBytes 8 v) (.cells #[] 96) (Lib.beBytes_length 8 v); rw [← hw1] at hb hcs; have HCS := Aside0.mk hcs; have HB := Aside0.mk hb; have c0' : w1.cell? ⟨e, 0, none⟩ = some (.iface 71 (.pointer (some ⟨b, 0, none⟩))) := (hb.cell (p := ⟨e, 0, none⟩) he).trans c0; clear hw1 hb hcs)
    | (go_at_call 124; have hW := HHW.out w1 w.heap.size 8 HB.out (Nat.le_refl _) HCS.out; rw [Lib.beBytes_length 8 v] at hW; refine hW.mono ?_; rintro r w2 ⟨rfl, hR⟩))
  refine bodyPost_end (results_none (by rfl) _ _ _) rfl ⟨rfl, hR⟩

set_option maxHeartbeats 4000000 in
set_option maxRecDepth 100000 in
theorem bw_f64_le (e b v : Nat) (hv : v < 18446744073709551616) (R : World → Prop) (w : World) (c0 : w.cell? ⟨e, 0, none⟩ = some (.iface 71 (.pointer (some ⟨b, 0, none⟩)))) (c2 : w.cell? ⟨e, 2, none⟩ = some (.iface 97 (.agg #[]))) (HW : Takes w b (Lib.leBytes 8 v) R) :
    Calls Tryz.prog 47 #[.pointer (some ⟨e, 0, none⟩), .iface 132 (.float .f64 v)] w fun r w' => r = .returned (.tuple #[]) ∧ R w' := by
  have he := block_lt_of_cell c0
  have HHW := Aside0.mk HW
  clear HW
  go_enter Tryz.func47, Tryz.ntmps47
  go_wp2
  go_region_with (go_at_call 142; refine (Tryz.binary_LE_PutUint64 w.heap.size 0 8 8 v hv (.int .u8 0) (.int .u8 0) (.int .u8 0) (.int .u8 0) (.int .u8 0) (.int .u8 0) (.int .u8 0) (.int .u8 0) _ (Nat.le_refl _) (by simp) (by simp) (by simp) (by simp) (by simp) (by simp) (by simp) (by simp) (by simp) (by simp) (by simp) (by simp) (by simp) (by simp) (by simp) (by simp) ).mono ?_; rintro r w1 ⟨rfl, hw1⟩; obtain ⟨hb, hcs⟩ := put_facts_d w #[.int .u8 0, .int .u8 0, .int .u8 0, .int .u8 0, .int .u8 0, .int .u8 0, .int .u8 0, .int .u8 0] (Lib.leBytes 8 v) (.cells #[] 97) (Lib.leBytes_length 8 v); rw [← hw1] at hb hcs; have HCS := Aside0.mk hcs; have HB := Aside0.mk hb; have c0' : w1.cell? ⟨e, 0, none⟩ = some (.iface 71 (.pointer (some ⟨b, 0, none⟩))) := (hb.cell (p := ⟨e, 0, none⟩) he).trans c0; clear hw1 hb hcs)
  all_goals
    go_wp2_with (go_at_call 124; have hW := HHW.out w1 w.heap.size 8 HB.out (Nat.le_refl _) HCS.out; rw [Lib.leBytes_length 8 v] at hW; refine hW.mono ?_; rintro r w2 ⟨rfl, hR⟩)
    refine bodyPost_end (results_none (by rfl) _ _ _) rfl ⟨rfl, hR⟩

set_option maxHeartbeats 4000000 in
set_option maxRecDepth 100000 in
theorem bw_f64_be (e b v : Nat) (hv : v < 18446744073709551616) (R : World → Prop) (w : World) (c0 : w.cell? ⟨e, 0, none⟩ = some (.iface 71 (.pointer (some ⟨b, 0, none⟩)))) (c2 : w.cell? ⟨e, 2, none⟩ = some (.iface 96 (.agg #[]))) (HW : Takes w b (Lib.beBytes 8 v) R) :
    Calls Tryz.prog 47 #[.pointer (some ⟨e, 0, none⟩), .iface 132 (.float .f64 v)] w fun r w' => r = .returned (.tuple #[]) ∧ R w' := by
  have he := block_lt_of_cell c0
  have HHW := Aside0.mk HW
  clear HW
  go_enter Tryz.func47, Tryz.ntmps47
  go_wp2
  go_region_with (go_at_call 134; refine (Tryz.binary_BE_PutUint64 w.heap.size 0 8 8 v hv (.int .u8 0) (.int .u8 0) (.int .u8 0) (.int .u8 0) (.int .u8 0) (.int .u8 0) (.int .u8 0) (.int .u8 0) _ (Nat.le_refl _) (by simp) (by simp) (by simp) (by simp) (by simp) (by simp) (by simp) (by simp) (by simp) (by simp) (by simp) (by simp) (by simp) (by simp) (by simp) (by simp) ).mono ?_; rintro r w1 ⟨rfl, hw1⟩; obtain ⟨hb, hcs⟩ := put_facts_d w #[.int .u8 0, .int .u8 0, .int .u8 0, .int .u8 0, .int .u8 0, .int .u8 0, .int .u8 0, .int .u8 0] (Lib.beBytes 8 v) (.cells #[] 96) (Lib.beBytes_length 8 v); rw [← hw1] at hb hcs; have HCS := Aside0.mk hcs; have HB := Aside0.mk hb; have c0' : w1.cell? ⟨e, 0, none⟩ = some (.iface 71 (.pointer (some ⟨b, 0, none⟩))) := (hb.cell (p := ⟨e, 0, none⟩) he).trans c0; clear hw1 hb hcs)
  all_goals
    go_wp2_with (go_at_call 124; have hW := HHW.out w1 w.heap.size 8 HB.out (Nat.le_refl _) HCS.out; rw [Lib.beBytes_length 8 v] at hW; refine hW.mono ?_; rintro r w2 ⟨rfl, hR⟩)
    refine bodyPost_end (results_none (by rfl) _ _ _) rfl ⟨rfl, hR⟩
end Go.Proofs.YtldjigfnagfalaaGreatDoor.Given

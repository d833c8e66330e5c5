/- Several texts of this claim in one. -/
import Derived.Test.YtldjigfnagfalaaGreatDoorGvWf
import Derived.Test.YtldjigfnagfalaaGreatDoorGvLi
import Derived.Test.YtldjigfnagfalaaGreatDoorGvEc
import Derived.Deep.RegionHeld3
/- alignment of a list; padding at the place 0 with a lookahead of 4. -/
namespace Go.Proofs.YtldjigfnagfalaaGreatDoor.Given
open Go.RowKit Go.Proofs.YtldjigfnagfalaaGreatDoorW.PrintWords
set_option linter.unusedVariables false
set_option maxHeartbeats 1000000 in
theorem align_list (c : UInt8) (w : World) : Calls Tryz.prog 42 #[.string ⟨#[91, c]⟩] w fun e w' => e = .returned (.int .i64 4) ∧ w = w' := by
  go_enter Tryz.func42, Tryz.ntmps42
  go_wp2_with (first | (go_at_call 81; refine (kindOf_list c _).mono ?_; rintro e w1 ⟨rfl, rfl⟩))
  all_goals
    go_ret
    exact ⟨rfl, rfl⟩
set_option maxHeartbeats 1000000 in
theorem padding4_8 (e : Nat) (w : World) (c3 : w.cell? ⟨e, 3, none⟩ = some (.int .i64 0)) :
    Calls Tryz.prog 56 #[.pointer (some ⟨e, 0, none⟩), .int .i64 4, .int .i64 8] w fun r w' => r = .returned (.int .i64 4) ∧ w = w' := by
  have hb : wrap64 (Go.bits .and .i64 11 (Go.bits .xor .i64 (-1) 7) - 4) = 4 := by kernel_rfl
  have HB := Aside0.mk hb
  clear hb
  go_enter Tryz.func56, Tryz.ntmps56
  go_wp2
  go_ret
  exact ⟨congrArg (fun x => Ending.returned (.int .i64 x)) HB.out, rfl⟩
set_option maxHeartbeats 1000000 in
theorem padding4_s (e : Nat) (s : Int) (hs : s = 1 ∨ s = 2 ∨ s = 4) (w : World) (c3 : w.cell? ⟨e, 3, none⟩ = some (.int .i64 0)) :
    Calls Tryz.prog 56 #[.pointer (some ⟨e, 0, none⟩), .int .i64 4, .int .i64 s] w fun r w' => r = .returned (.int .i64 0) ∧ w = w' := by
  rcases hs with rfl | rfl | rfl
  all_goals
    go_enter Tryz.func56, Tryz.ntmps56
    go_wp2
    go_ret
    exact ⟨rfl, rfl⟩
end Go.Proofs.YtldjigfnagfalaaGreatDoor.Given
/- What the end of a list's encoding does on the outer buffer: the count, the padding, the elements' bytes. -/
namespace Go.Proofs.YtldjigfnagfalaaGreatDoor.Given
open Go.RowKit Go.Proofs.YtldjigfnagfalaaGreatDoorW.PrintWords
set_option linter.unusedVariables false
/-- The block of an encoder. -/
abbrev encCells (b : Nat) (o : TypeId) (q : Int) : Obj := .cells #[.iface 71 (.pointer (some ⟨b, 0, none⟩)), .slice none 0 0, .iface o (.agg #[]), .int .i64 q] 94 (0, 0)
theorem enc_cells {W : World} {e b : Nat} {o : TypeId} {q : Int} (h : W.heap[e]? = some (encCells b o q)) :
    W.cell? ⟨e, 0, none⟩ = some (.iface 71 (.pointer (some ⟨b, 0, none⟩))) ∧ W.cell? ⟨e, 1, none⟩ = some (.slice none 0 0) ∧ W.cell? ⟨e, 2, none⟩ = some (.iface o (.agg #[])) ∧ W.cell? ⟨e, 3, none⟩ = some (.int .i64 q) ∧ W.frozen? ⟨e, 1, none⟩ = false ∧ W.frozen? ⟨e, 3, none⟩ = false := by
  refine ⟨?_, ?_, ?_, ?_, Lib.frozen_of_heap h 1, Lib.frozen_of_heap h 3⟩ <;> (rw [Lib.cell_of_heap h]; rfl)
theorem cell_same {w w' : World} {a : Addr} (h : w'.heap[a.block]? = w.heap[a.block]?) : w'.cell? a = w.cell? a := by unfold World.cell?; rw [h]
/-- A buffer all of whose blocks stand. -/
theorem buf_above {B b : Nat} {bs : List Value} {w w' : World} (h : Lib.IsBuffer 68 5 B b bs w) (hk : ∀ x, B ≤ x → x < w.heap.size → w'.heap[x]? = w.heap[x]?) : Lib.IsBuffer 68 5 B b bs w' := by
  have hlt := h.lt
  obtain ⟨hB, v, lr, hbk, hown, hne⟩ := h
  refine ⟨hB, v, lr, (hk b hB hlt).trans hbk, ⟨hown.1, ?_⟩, hne⟩
  rcases hown.2 with hn | ⟨g, cap, cur, hv, hBg, hg, rest⟩
  · exact .inl hn
  · exact .inr ⟨g, cap, cur, hv, hBg, (hk g hBg (Lib.lt_of_heap hg)).trans hg, rest⟩
/-- The order's number. -/
def ordOf (big : Bool) : TypeId := if big then 96 else 97
def cntBytes (big : Bool) (n : Nat) : List UInt8 := if big then Lib.beBytes 4 n else Lib.leBytes 4 n
theorem cntBytes_length (big : Bool) (n : Nat) : (cntBytes big n).length = 4 := by
  unfold cntBytes; split
  · exact Lib.beBytes_length 4 n
  · exact Lib.leBytes_length 4 n
theorem en_u32 (big : Bool) (e b v : Nat) (hv : v < 4294967296) (q dep : Int) (hd0 : 0 ≤ dep) (hd : dep ≤ 64) (hq0 : 0 ≤ q) (hq1 : q < 4611686018427387904) (hm : q.tmod 4 = 0) (R : World → Prop) (w : World)
    (hE : w.heap[e]? = some (encCells b (ordOf big) q)) (HW : Takes w b (cntBytes big v) R)
    (hR : ∀ w', R w' → w'.cell? ⟨e, 3, none⟩ = some (.int .i64 q) ∧ w'.frozen? ⟨e, 3, none⟩ = false) :
    Calls Tryz.prog 36 #[.pointer (some ⟨e, 0, none⟩), .agg #[.iface 36 (.int .u32 v), .string ⟨#[117]⟩], .int .i64 dep] w fun r w' => r = .returned (.tuple #[]) ∧ ∃ w1, R w1 ∧ w' = w1.setCell ⟨e, 3, none⟩ (.int .i64 (q + 4)) := by
  obtain ⟨c0, -, c2, c3, -, -⟩ := enc_cells hE
  cases big
  · exact en_117_le e b v hv q dep hd0 hd hq0 hq1 hm R w c0 c2 c3 HW hR
  · exact en_117_be e b v hv q dep hd0 hd hq0 hq1 hm R w c0 c2 c3 HW hR
/-- What the first write leaves. -/
def R1 (W : World) (B b : Nat) (bytes : List UInt8) (w' : World) : Prop := ∃ gg, W.heap.size ≤ gg ∧ Sm w' B b gg bytes ∧ (∀ x, x < W.heap.size → x ≠ b → w'.heap[x]? = W.heap[x]?) ∧ Below B W w'
theorem takes_first4 (B b : Nat) (lr : Int) (bytes : List UInt8) (W : World) (hB : B ≤ b) (hBw : B ≤ W.heap.size) (hbk : W.heap[b]? = some (.cells #[.slice none 0 0, .int .i64 0, .int .i8 lr] 68 (0, 0))) (hl : bytes.length = 4) : Takes W b bytes (R1 W B b bytes) := by
  intro W' g c hb hg hcs
  have hlt := Lib.lt_of_heap hbk
  rw [hl]
  refine (write_first4 B b lr bytes ⟨g, 0, none⟩ c W' hB (Nat.le_trans hBw hb.size) ((hb.block b hlt).trans hbk) hl (show g ≠ b by omega) hcs).mono ?_
  rintro r w' ⟨rfl, hS, hBl, hbut⟩
  refine ⟨rfl, W'.heap.size, hb.size, hS, fun x hx hxb => ?_, (hb.mono hBw).trans hBl⟩
  have := hb.size
  exact (hbut x (by omega) hxb (by omega)).trans (hb.block x hx)
theorem mk4_4 (W : World) : (Instr.makeSlice 24 (.int .i64 4) (.int .i64 4)).run Tryz.prog W = .ok (.slice (some ⟨W.heap.size, 0, none⟩) 4 4) (W.alloc (.cells (Array.replicate 4 (.int .u8 0)) 5)) := by kernel_rfl
set_option maxHeartbeats 1000000 in
theorem padding0_8 (e : Nat) (w : World) (c3 : w.cell? ⟨e, 3, none⟩ = some (.int .i64 4)) :
    Calls Tryz.prog 56 #[.pointer (some ⟨e, 0, none⟩), .int .i64 0, .int .i64 8] w fun r w' => r = .returned (.int .i64 4) ∧ w = w' := by
  have hb : wrap64 (Go.bits .and .i64 11 (Go.bits .xor .i64 (-1) 7) - 4) = 4 := by kernel_rfl
  have HB := Aside0.mk hb
  clear hb
  go_enter Tryz.func56, Tryz.ntmps56
  go_wp2
  go_ret
  exact ⟨congrArg (fun x => Ending.returned (.int .i64 x)) HB.out, rfl⟩
attribute [local go_sem] mk4_4 me_write
set_option maxHeartbeats 4000000 in
set_option maxRecDepth 100000 in
theorem align_8 (B e b g : Nat) (o : TypeId) (bs : List UInt8) (w : World) (hE : w.heap[e]? = some (encCells b o 4)) (hS : Sm w B b g bs) (hl : bs.length + 4 ≤ 64) (hBe : B ≤ e) (hBw : B ≤ w.heap.size) :
    Calls Tryz.prog 41 #[.pointer (some ⟨e, 0, none⟩), .int .i64 8] w fun r w' => r = .returned (.tuple #[]) ∧ Sm w' B b g (bs ++ [0, 0, 0, 0]) ∧ w'.heap[e]? = some (encCells b o 8) ∧ Below B w w' ∧ ∀ x, x < w.heap.size → x ≠ b → x ≠ g → x ≠ e → w'.heap[x]? = w.heap[x]? := by
  obtain ⟨c0, -, -, c3, -, -⟩ := enc_cells hE
  have hle := Lib.lt_of_heap hE
  have hlb : b < w.heap.size := hS.buf.lt
  have hlg := hS.lt
  have heb : e ≠ b := by
    rintro rfl
    obtain ⟨lr, cur, h1, -⟩ := hS.ex
    have := hE.symm.trans h1; simp at this
  have heg : e ≠ g := by
    rintro rfl
    obtain ⟨lr, cur, -, h1, -⟩ := hS.ex
    have := hE.symm.trans h1; simp at this
  have hS1 : Sm (w.alloc (.cells (Array.replicate 4 (.int .u8 0)) 5)) B b g bs := hS.old (Below.heap_alloc _ _ _ hlb) (Below.heap_alloc _ _ _ hlg)
  have hsrc : ∀ j v, (Lib.byteCells [0, 0, 0, 0])[j]? = some v → (w.alloc (.cells (Array.replicate 4 (.int .u8 0)) 5)).cell? ((⟨w.heap.size, 0, none⟩ : Addr).add j) = some v := by
    intro j v hj
    rw [Lib.addr_add, Lib.cell_of_heap (heap_alloc_new w _)]
    rcases j with _ | _ | _ | _ | j <;> simp_all [Lib.byteCells]
  have hw := write_room B b g bs [0, 0, 0, 0] ⟨w.heap.size, 0, none⟩ 4 4 _ hS1 rfl (by decide) hl (show w.heap.size ≠ b by omega) hsrc
  have HW := Aside0.mk hw
  have HE := Aside0.mk hE
  clear hw hsrc hS1 hS hE
  go_enter Tryz.func41, Tryz.ntmps41
  go_wp2_with fail
  refine (padding0_8 e _ c3).mono ?_
  rintro r w1 ⟨rfl, rfl⟩
  go_wp2_with fail
  refine (HW.out).mono ?_
  rintro r w1 ⟨rfl, hS2, hb2, hbut⟩
  have he1 : w1.heap[e]? = some (encCells b o 4) := (hbut e (by simp; omega) heb heg).trans ((Below.heap_alloc _ _ _ hle).trans HE.out)
  obtain ⟨-, -, -, d3, -, f3⟩ := enc_cells he1
  have HS2 := Aside0.mk hS2
  have HB2 := Aside0.mk hb2
  have HBUT := Aside0.mk hbut
  have HE1 := Aside0.mk he1
  clear hS2 hb2 hbut he1 c0 c3
  go_wp2_with fail
  refine bodyPost_end (results_none (by rfl) _ _ _) rfl ⟨rfl, ?_, ?_, ?_, ?_⟩
  · exact HS2.out.old (Below.heap_setCell _ _ _ _ (Ne.symm heb)) (Below.heap_setCell _ _ _ _ (Ne.symm heg))
  · exact Lib.heap_setCell_same (i := 3) HE1.out (.int .i64 8)
  · exact (((Below.refl B w).alloc hBw _).trans HB2.out).setCell (p := ⟨e, 3, none⟩) hBe _
  · intro x hx hxb hxg hxe
    rw [Below.heap_setCell _ _ _ _ hxe]
    exact (HBUT.out x (by simp; omega) hxb hxg).trans (Below.heap_alloc _ _ _ hx)
end Go.Proofs.YtldjigfnagfalaaGreatDoor.Given
/- (*bytes.Buffer).Reset and WriteTo into another buffer. -/
namespace Go.Proofs.YtldjigfnagfalaaGreatDoor.Given
open Go.RowKit Go.Proofs.YtldjigfnagfalaaGreatDoorW.PrintWords
set_option linter.unusedVariables false
attribute [local go_sem] me_write
/-- Every block but one stays. -/
def Only (b : Nat) (w w' : World) : Prop := w'.heap.size = w.heap.size ∧ ∀ x, x ≠ b → w'.heap[x]? = w.heap[x]?
theorem Only.refl (b : Nat) (w : World) : Only b w w := ⟨rfl, fun _ _ => rfl⟩
theorem Only.trans {b : Nat} {a c d : World} (h : Only b a c) (k : Only b c d) : Only b a d := ⟨k.1.trans h.1, fun x hx => (k.2 x hx).trans (h.2 x hx)⟩
theorem Only.set {b : Nat} {a c : World} (h : Only b a c) (i : Nat) (v : Value) : Only b a (c.setCell ⟨b, i, none⟩ v) :=
  ⟨by rw [← h.1]; simp [World.setCell], fun x hx => (Below.heap_setCell _ _ _ _ hx).trans (h.2 x hx)⟩
theorem Only.drewN {b : Nat} {a c : World} (h : Only b a c) (k : Nat) : Only b a (c.drewN k) := h
theorem Only.drew {b : Nat} {a c : World} (h : Only b a c) : Only b a c.drew := h
/-- A buffer stays if another buffer's block alone is changed. -/
theorem buf_only {B b b1 : Nat} {bs : List Value} {cs : Array Value} {w w' : World} (h : Lib.IsBuffer 68 5 B b bs w) (hk : Only b1 w w') (h1 : w.heap[b1]? = some (.cells cs 68 (0, 0))) (hb : b ≠ b1) : Lib.IsBuffer 68 5 B b bs w' := by
  obtain ⟨hB, v, lr, hbk, hown, hne⟩ := h
  refine ⟨hB, v, lr, (hk.2 b hb).trans hbk, ⟨hown.1, ?_⟩, hne⟩
  rcases hown.2 with hn | ⟨g, cap, cur, hv, hBg, hg, rest⟩
  · exact .inl hn
  · refine .inr ⟨g, cap, cur, hv, hBg, (hk.2 g ?_).trans hg, rest⟩
    rintro rfl
    have := hg.symm.trans h1; simp at this
set_option maxHeartbeats 4000000 in
set_option maxRecDepth 100000 in
theorem reset_nil (b : Nat) (off lr : Int) (w : World) (hbk : w.heap[b]? = some (.cells #[.slice none 0 0, .int .i64 off, .int .i8 lr] 68 (0, 0))) :
    Calls Tryz.prog 88 #[.pointer (some ⟨b, 0, none⟩)] w fun r w' => r = .returned (.tuple #[]) ∧ Only b w w' ∧ ∀ B, B ≤ b → Below B w w' := by
  have c0 : w.cell? ⟨b, 0, none⟩ = some (.slice none 0 0) := by rw [Lib.cell_of_heap hbk]; rfl
  have c1 : w.cell? ⟨b, 1, none⟩ = some (.int .i64 off) := by rw [Lib.cell_of_heap hbk]; rfl
  have c2 : w.cell? ⟨b, 2, none⟩ = some (.int .i8 lr) := by rw [Lib.cell_of_heap hbk]; rfl
  have f0 : w.frozen? ⟨b, 0, none⟩ = false := Lib.frozen_of_heap hbk 0
  have f1 : w.frozen? ⟨b, 1, none⟩ = false := Lib.frozen_of_heap hbk 1
  have f2 : w.frozen? ⟨b, 2, none⟩ = false := Lib.frozen_of_heap hbk 2
  clear hbk
  go_enter Tryz.func88, Tryz.ntmps88
  go_wp2
  refine bodyPost_end (results_none (by rfl) _ _ _) rfl ⟨rfl, (((Only.refl b w).set 0 _).set 1 _).set 2 _, fun B hB => (((Below.refl B w).setCell (p := ⟨b, 0, none⟩) hB _).setCell (p := ⟨b, 1, none⟩) hB _).setCell (p := ⟨b, 2, none⟩) hB _⟩
set_option maxHeartbeats 4000000 in
set_option maxRecDepth 100000 in
theorem reset_row (b g l cap : Nat) (off lr : Int) (w : World) (hl : l ≤ cap) (hcm : cap ≤ maxLen) (hbk : w.heap[b]? = some (.cells #[.slice (some ⟨g, 0, none⟩) l cap, .int .i64 off, .int .i8 lr] 68 (0, 0))) :
    Calls Tryz.prog 88 #[.pointer (some ⟨b, 0, none⟩)] w fun r w' => r = .returned (.tuple #[]) ∧ Only b w w' ∧ ∀ B, B ≤ b → Below B w w' := by
  have c0 : w.cell? ⟨b, 0, none⟩ = some (.slice (some ⟨g, 0, none⟩) l cap) := by rw [Lib.cell_of_heap hbk]; rfl
  have c1 : w.cell? ⟨b, 1, none⟩ = some (.int .i64 off) := by rw [Lib.cell_of_heap hbk]; rfl
  have c2 : w.cell? ⟨b, 2, none⟩ = some (.int .i8 lr) := by rw [Lib.cell_of_heap hbk]; rfl
  have f0 : w.frozen? ⟨b, 0, none⟩ = false := Lib.frozen_of_heap hbk 0
  have f1 : w.frozen? ⟨b, 1, none⟩ = false := Lib.frozen_of_heap hbk 1
  have f2 : w.frozen? ⟨b, 2, none⟩ = false := Lib.frozen_of_heap hbk 2
  unfold maxLen at hcm
  clear hbk
  go_enter Tryz.func88, Tryz.ntmps88
  go_wp2
  refine bodyPost_end (results_none (by rfl) _ _ _) rfl ⟨rfl, (((Only.refl b w).set 0 _).set 1 _).set 2 _, fun B hB => (((Below.refl B w).setCell (p := ⟨b, 0, none⟩) hB _).setCell (p := ⟨b, 1, none⟩) hB _).setCell (p := ⟨b, 2, none⟩) hB _⟩
end Go.Proofs.YtldjigfnagfalaaGreatDoor.Given
/- (*bytes.Buffer).WriteTo of one buffer into another. -/
namespace Go.Proofs.YtldjigfnagfalaaGreatDoor.Given
open Go.RowKit Go.Proofs.YtldjigfnagfalaaGreatDoorW.PrintWords
set_option linter.unusedVariables false
theorem na_write (b : Nat) (W : World) : (nilAhead 337 71 (.pointer (some ⟨b, 0, none⟩)) "Write").run Tryz.prog W = .ok (some false) W := by kernel_rfl
attribute [local go_sem] me_write na_write
theorem below_drewN {B : Nat} {a c : World} (h : Below B a c) (k : Nat) : Below B a (c.drewN k) :=
  have hb := ((Drawn0.refl c).step k).below
  h.trans ⟨hb.os, hb.tape, hb.output, hb.size, fun _ _ => rfl⟩
set_option maxHeartbeats 8000000 in
set_option maxRecDepth 100000 in
theorem writeTo_none (B1 b b1 : Nat) (w : World) (hI : Lib.IsBuffer 68 5 B1 b1 [] w) :
    Calls Tryz.prog 60 #[.pointer (some ⟨b1, 0, none⟩), .iface 71 (.pointer (some ⟨b, 0, none⟩))] w fun r w' => r = .returned (.tuple #[.int .i64 0, .nilIface]) ∧ Only b1 w w' ∧ ∀ B, B ≤ b1 → Below B w w' := by
  have hcs := hI.cases
  obtain ⟨hB, lr, hc⟩ := hcs
  have hbk : ∃ v, w.heap[b1]? = some (.cells #[v, .int .i64 0, .int .i8 lr] 68 (0, 0)) := by
    rcases hc with ⟨-, h⟩ | ⟨g, cap, cur, h, -⟩
    · exact ⟨_, h⟩
    · exact ⟨_, h⟩
  obtain ⟨v, hbk⟩ := hbk
  have c2 : w.cell? ⟨b1, 2, none⟩ = some (.int .i8 lr) := by rw [Lib.cell_of_heap hbk]; rfl
  have f2 : w.frozen? ⟨b1, 2, none⟩ = false := Lib.frozen_of_heap hbk 2
  have HI := Aside0.mk (hI.setLast 0)
  have HC := Aside0.mk hc
  clear hI hc hbk
  go_enter Tryz.func60, Tryz.ntmps60
  go_wp2_with fail
  refine (Tryz.Buffer_Len B1 b1 [] _ HI.out).mono ?_
  rintro r w1 ⟨rfl, k, rfl⟩
  go_wp2_with fail
  have hr : Calls Tryz.prog 88 #[.pointer (some ⟨b1, 0, none⟩)] ((w.setCell ⟨b1, 2, none⟩ (.int .i8 0)).drewN k) fun r w' => r = .returned (.tuple #[]) ∧ Only b1 ((w.setCell ⟨b1, 2, none⟩ (.int .i8 0)).drewN k) w' ∧ ∀ B, B ≤ b1 → Below B ((w.setCell ⟨b1, 2, none⟩ (.int .i8 0)).drewN k) w' := by
    rcases HC.out with ⟨-, h⟩ | ⟨g, cap, cur, h, -, -, hnc, hcm, -, -, -⟩
    · exact reset_nil b1 0 0 _ (Lib.heap_setCell_same (i := 2) h (.int .i8 0))
    · exact reset_row b1 g _ cap 0 0 _ hnc hcm (Lib.heap_setCell_same (i := 2) h (.int .i8 0))
  have HR := Aside0.mk hr
  clear hr
  refine (HR.out).mono ?_
  rintro r w1 ⟨rfl, ho, hb⟩
  have HO := Aside0.mk ho
  have HBB := Aside0.mk hb
  clear ho hb
  go_wp2_with fail
  go_ret2
  exact ⟨rfl, (((Only.refl b1 w).set 2 _).drewN k).trans HO.out, fun B hB => (below_drewN ((Below.refl B w).setCell (p := ⟨b1, 2, none⟩) hB (.int .i8 0)) k).trans (HBB.out B hB)⟩
set_option maxHeartbeats 8000000 in
set_option maxRecDepth 100000 in
theorem writeTo_some (B B1 b b1 : Nat) (obs bs : List UInt8) (h0 : bs ≠ []) (w : World) (hO : Lib.IsBuffer 68 5 B b (Lib.byteCells obs) w) (hI : Lib.IsBuffer 68 5 B1 b1 (Lib.byteCells bs) w) (hbb : b ≠ b1) (hBb1 : B ≤ b1) (hBw : B ≤ w.heap.size) (hlim : obs.length + bs.length ≤ 140737488355328) (hl2 : bs.length ≤ 1000000) :
    Calls Tryz.prog 60 #[.pointer (some ⟨b1, 0, none⟩), .iface 71 (.pointer (some ⟨b, 0, none⟩))] w fun r w' => r = .returned (.tuple #[.int .i64 bs.length, .nilIface]) ∧ Lib.IsBuffer 68 5 B b (Lib.byteCells (obs ++ bs)) w' ∧ Below B w w' ∧ ∀ (x : Nat) (ob : Obj), w.heap[x]? = some ob → x ≠ b → x ≠ b1 → (∀ c fz, ob ≠ .cells c 5 fz) → w'.heap[x]? = some ob := by
  obtain ⟨hB1, lr, hc⟩ := hI.cases
  rcases hc with ⟨hnil, -⟩ | ⟨g, cap, cur, hbk, hBg, hg, hnc, hcm, hcs, htk, hgb⟩
  · exact absurd (by have := congrArg List.length hnil; rw [Lib.byteCells_length] at this; exact List.eq_nil_of_length_eq_zero this) h0
  rw [Lib.byteCells_length] at hbk hnc htk
  have hpos : 0 < bs.length := List.length_pos_iff.2 h0
  have c2 : w.cell? ⟨b1, 2, none⟩ = some (.int .i8 lr) := by rw [Lib.cell_of_heap hbk]; rfl
  have f2 : w.frozen? ⟨b1, 2, none⟩ = false := Lib.frozen_of_heap hbk 2
  have hbk1 : (w.setCell ⟨b1, 2, none⟩ (.int .i8 0)).heap[b1]? = some (.cells #[.slice (some ⟨g, 0, none⟩) bs.length cap, .int .i64 0, .int .i8 0] 68 (0, 0)) := Lib.heap_setCell_same (i := 2) hbk (.int .i8 0)
  have hg1 : (w.setCell ⟨b1, 2, none⟩ (.int .i8 0)).heap[g]? = some (.cells cur 5 (0, 0)) := by rw [Below.heap_setCell _ _ _ _ hgb]; exact hg
  have hO1 := buf_only hO ((Only.refl b1 w).set 2 (.int .i8 0)) hbk hbb
  have hgb2 : g ≠ b := by
    rintro rfl
    obtain ⟨-, v, lr2, hv, -⟩ := hO
    have := hg.symm.trans hv; simp at this
  have HI := Aside0.mk (hI.setLast 0)
  have HO1 := Aside0.mk hO1
  have HBK := Aside0.mk hbk1
  have HG := Aside0.mk hg1
  have HTK := Aside0.mk htk
  have HCS := Aside0.mk hcs
  have HB0 := Aside0.mk ((Below.refl B w).setCell (p := ⟨b1, 2, none⟩) hBb1 (.int .i8 0))
  have hls : (w.setCell ⟨b1, 2, none⟩ (.int .i8 0)).heap.size = w.heap.size := size_setCell _ _ _
  unfold maxLen at hcm
  clear hbk hg hO hI hbk1 hg1 hO1 htk hcs
  go_enter Tryz.func60, Tryz.ntmps60
  go_wp2_with fail
  refine (Tryz.Buffer_Len B1 b1 (Lib.byteCells bs) _ HI.out).mono ?_
  rintro r w1 ⟨rfl, k, hw1⟩
  rw [Lib.byteCells_length]
  have hW : Aside0 (Only b1 w w1) := ⟨hw1 ▸ (((Only.refl b1 w).set 2 (.int .i8 0)).drewN k)⟩
  have HBK1 : Aside0 (w1.heap[b1]? = some (.cells #[.slice (some ⟨g, 0, none⟩) bs.length cap, .int .i64 0, .int .i8 0] 68 (0, 0))) := ⟨by rw [hw1]; exact HBK.out⟩
  have HG1 : Aside0 (w1.heap[g]? = some (.cells cur 5 (0, 0))) := ⟨by rw [hw1]; exact HG.out⟩
  have HO2 : Aside0 (Lib.IsBuffer 68 5 B b (Lib.byteCells obs) w1) := ⟨hw1 ▸ HO1.out.drewN k⟩
  have HB1 : Aside0 (Below B w w1) := ⟨hw1 ▸ below_drewN HB0.out k⟩
  have hz1 : w1.heap.size = w.heap.size := hW.out.1
  clear hw1 HBK HG HO1 HB0 hls c2 f2
  have c0 : w1.cell? ⟨b1, 0, none⟩ = some (.slice (some ⟨g, 0, none⟩) bs.length cap) := by rw [Lib.cell_of_heap HBK1.out]; rfl
  have c1 : w1.cell? ⟨b1, 1, none⟩ = some (.int .i64 0) := by rw [Lib.cell_of_heap HBK1.out]; rfl
  have hsrc : ∀ j v, (Lib.byteCells bs)[j]? = some v → w1.drew.cell? ((⟨g, 0, none⟩ : Addr).add j) = some v := by
    rw [← HTK.out]
    exact Lib.cells_of_row (w := w1.drew) HG1.out bs.length
  have hwr := Tryz.Buffer_Write_any B b (Lib.byteCells obs) (Lib.byteCells bs) ⟨g, 0, none⟩ bs.length cap w1.drew HO2.out.drew (show B ≤ w1.heap.size by omega) (one_bytes obs) (Lib.byteCells_length bs) (show g ≠ b from hgb2) hsrc (one_bytes bs) (by rw [Lib.byteCells_length]; exact hlim)
  have HWR := Aside0.mk hwr
  clear hwr hsrc
  go_wp2_with fail
  go_region_held3 (fun w' => w'.cell? ⟨b1, 0, none⟩ = some (.slice (some ⟨g, 0, none⟩) bs.length cap) ∧ w'.cell? ⟨b1, 1, none⟩ = some (.int .i64 0))
    (first | exact ⟨y0, y1⟩ | exact ⟨c0, c1⟩)
    (first
      | (go_at_call 124; refine (HWR.out).mono ?_; rintro r w2 ⟨rfl, hI2, hB2, hK2⟩; have hbk2 := hK2 b1 _ HBK1.out (fun e => hbb (Option.some.inj e).symm) (by intro c fz hc; cases hc); have y0 : w2.cell? ⟨b1, 0, none⟩ = some (.slice (some ⟨g, 0, none⟩) bs.length cap) := by { rw [Lib.cell_of_heap hbk2]; rfl }; have y1 : w2.cell? ⟨b1, 1, none⟩ = some (.int .i64 0) := by { rw [Lib.cell_of_heap hbk2]; rfl }; have HBK2 := Aside0.mk hbk2; have HI2 := Aside0.mk hI2; have HB2 := Aside0.mk hB2; have HK2 := Aside0.mk hK2; clear hbk2 hI2 hB2 hK2))
  have f1 : w2.frozen? ⟨b1, 1, none⟩ = false := Lib.frozen_of_heap HBK2.out 1
  go_wp2_with fail
  have hbk3 : (w2.setCell ⟨b1, 1, none⟩ (.int .i64 bs.length)).heap[b1]? = some (.cells #[.slice (some ⟨g, 0, none⟩) bs.length cap, .int .i64 bs.length, .int .i8 0] 68 (0, 0)) := Lib.heap_setCell_same (i := 1) HBK2.out (.int .i64 bs.length)
  have HR := Aside0.mk (reset_row b1 g bs.length cap bs.length 0 _ hnc (by unfold maxLen; exact hcm) hbk3)
  clear hbk3
  refine (HR.out).mono ?_
  rintro r w3 ⟨rfl, ho, hb⟩
  have HO3 := Aside0.mk ho
  have HB3 := Aside0.mk hb
  clear ho hb
  go_wp2_with fail
  go_ret2
  have hol : Only b1 w2 w3 := ((Only.refl b1 w2).set 1 (.int .i64 bs.length)).trans HO3.out
  refine ⟨rfl, ?_, ?_, ?_⟩
  · rw [Lib.byteCells_append]
    exact buf_only HI2.out hol HBK2.out hbb
  · exact (HB1.out.drew.trans (HB2.out.setCell (p := ⟨b1, 1, none⟩) hBb1 (.int .i64 bs.length))).trans (HB3.out B hBb1)
  · intro x ob hx hx2 hx1 hob
    have hxw : w1.drew.heap[x]? = some ob := (hW.out.2 x hx1).trans hx
    exact (hol.2 x hx1).trans (HK2.out x _ hxw (fun e => hx2 (Option.some.inj e)) hob)
end Go.Proofs.YtldjigfnagfalaaGreatDoor.Given
/- The padding behind the count, and WriteTo of a buffer that may be empty: one contract each. -/
namespace Go.Proofs.YtldjigfnagfalaaGreatDoor.Given
open Go.RowKit Go.Proofs.YtldjigfnagfalaaGreatDoorW.PrintWords
set_option linter.unusedVariables false
/-- What the padding leaves. -/
def Padded (B e b g : Nat) (o : TypeId) (h0 : Int) (bs : List UInt8) (w w' : World) : Prop :=
  Sm w' B b g (bs ++ List.replicate (h0 - 4).toNat 0) ∧ w'.heap[e]? = some (encCells b o h0) ∧ Below B w w' ∧ ∀ x, x < w.heap.size → x ≠ b → x ≠ g → x ≠ e → w'.heap[x]? = w.heap[x]?
theorem align_pad (B e b g : Nat) (o : TypeId) (s h0 : Int) (bs : List UInt8) (w : World) (hs : (s = 8 ∧ h0 = 8) ∨ ((s = 1 ∨ s = 2 ∨ s = 4) ∧ h0 = 4)) (hE : w.heap[e]? = some (encCells b o 4)) (hS : Sm w B b g bs) (hl : bs.length + 4 ≤ 64) (hBe : B ≤ e) (hBw : B ≤ w.heap.size) :
    Calls Tryz.prog 41 #[.pointer (some ⟨e, 0, none⟩), .int .i64 s] w fun r w' => r = .returned (.tuple #[]) ∧ Padded B e b g o h0 bs w w' := by
  rcases hs with ⟨rfl, rfl⟩ | ⟨h, rfl⟩
  · exact (align_8 B e b g o bs w hE hS hl hBe hBw).mono fun r w' ⟨h1, h2⟩ => ⟨h1, h2⟩
  · obtain ⟨-, -, -, c3, -, -⟩ := enc_cells hE
    refine (align0 e 4 s (by decide) (by decide) (by omega) (by rcases h with rfl | rfl | rfl <;> rfl) w c3).mono ?_
    rintro r w' ⟨rfl, rfl⟩
    exact ⟨rfl, by simpa using hS, hE, Below.refl _ _, fun _ _ _ _ _ => rfl⟩
/-- What WriteTo leaves of the other buffer and of encoders. -/
def Written (B b b1 : Nat) (bs : List UInt8) (w w' : World) : Prop :=
  Lib.IsBuffer 68 5 B b (Lib.byteCells bs) w' ∧ Below B w w' ∧ ∀ (x : Nat) (ob : Obj), w.heap[x]? = some ob → x ≠ b → x ≠ b1 → (∀ c fz, ob ≠ .cells c 5 fz) → w'.heap[x]? = some ob
theorem writeTo (B B1 b b1 : Nat) (obs bs : List UInt8) (w : World) (hO : Lib.IsBuffer 68 5 B b (Lib.byteCells obs) w) (hI : Lib.IsBuffer 68 5 B1 b1 (Lib.byteCells bs) w) (hbb : b ≠ b1) (hBb1 : B ≤ b1) (hBw : B ≤ w.heap.size) (hlim : obs.length + bs.length ≤ 140737488355328) (hl2 : bs.length ≤ 1000000) :
    Calls Tryz.prog 60 #[.pointer (some ⟨b1, 0, none⟩), .iface 71 (.pointer (some ⟨b, 0, none⟩))] w fun r w' => r = .returned (.tuple #[.int .i64 bs.length, .nilIface]) ∧ Written B b b1 (obs ++ bs) w w' := by
  by_cases h0 : bs = []
  · subst h0
    have hT : ∃ cs, w.heap[b1]? = some (.cells cs 68 (0, 0)) := by obtain ⟨-, v, lr, h, -⟩ := hI; exact ⟨_, h⟩
    obtain ⟨cs1, hcs⟩ := hT
    refine (writeTo_none B1 b b1 w hI).mono ?_
    rintro r w' ⟨rfl, ho, hb⟩
    refine ⟨rfl, by rw [List.append_nil]; exact buf_only hO ho hcs hbb, hb B hBb1, fun x ob hx _ hx1 _ => (ho.2 x hx1).trans hx⟩
  · exact (writeTo_some B B1 b b1 obs bs h0 w hO hI hbb hBb1 hBw hlim hl2).mono fun r w' ⟨h1, h2⟩ => ⟨h1, h2⟩
end Go.Proofs.YtldjigfnagfalaaGreatDoor.Given

/- Part of the proof of LawFnMsName. -/
import Derived.Test.YtldjigfnagfalaaGreatDoorGvEn
import Derived.Deep.RegionHeld3
import Derived.Laws.BitsLemmas
import Derived.Laws.MakeOwn
set_option linter.unusedVariables false
set_option linter.unusedSimpArgs false
section
namespace Go.Proofs.YtldjigfnagfalaaGreatDoor.Given
open Go.RowKit Go.Proofs.YtldjigfnagfalaaGreatDoorW.PrintWords
set_option linter.unusedVariables false
attribute [local go_sem] me_write
theorem new_lt' {w w1 : World} {o : Obj} (hb : Below (w.alloc o).heap.size (w.alloc o) w1) : w.heap.size < w1.heap.size := by
  have := hb.size
  simp at this
  omega
set_option maxHeartbeats 8000000 in
set_option maxRecDepth 100000 in
theorem en_121 (e b v : Nat) (hv : v < 256) (q dep : Int) (hd0 : 0 ≤ dep) (hd : dep ≤ 64) (hq0 : 0 ≤ q) (hq1 : q < 4611686018427387904) (R : World → Prop) (w : World)
    (c0 : w.cell? ⟨e, 0, none⟩ = some (.iface 71 (.pointer (some ⟨b, 0, none⟩)))) (c3 : w.cell? ⟨e, 3, none⟩ = some (.int .i64 q)) (HW : Takes w b [UInt8.ofNat v] R)
    (hR : ∀ w', R w' → w'.cell? ⟨e, 3, none⟩ = some (.int .i64 q) ∧ w'.frozen? ⟨e, 3, none⟩ = false) :
    Calls Tryz.prog 36 #[.pointer (some ⟨e, 0, none⟩), .agg #[.iface 5 (.int .u8 v), .string ⟨#[121]⟩], .int .i64 dep] w fun r w' => r = .returned (.tuple #[]) ∧ ∃ w1, R w1 ∧ w' = w1.setCell ⟨e, 3, none⟩ (.int .i64 (q + 1)) := by
  have he := block_lt_of_cell c0
  have hw : wrap64 (q + 1) = q + 1 := by unfold wrap64; omega
  have hwv : IntKind.u8.wrap (v : Int) = v := by unfold IntKind.wrap; simp [IntKind.signed, IntKind.bits]; omega
  have hal : Tryz.prog.arrayLen 124 = 1 := by kernel_rfl
  have hel : Tryz.prog.elem 124 = 5 := by kernel_rfl
  have hsl : ∀ (g : Nat) (W : World), (Instr.sliceAt 124 (.pointer (some ⟨g, 0, none⟩)) none none none).run Tryz.prog W = .ok (.slice (some ⟨g, 0, none⟩) 1 1) W := fun g W => by kernel_rfl
  have HHW := Aside0.mk HW
  have HHR := Aside0.mk hR
  clear HW hR hal hel
  go_enter Tryz.func36, Tryz.ntmps36
  go_wp2_with (first
    | (go_at_call 43; refine (zType _ _ _).mono ?_; rintro r w1 ⟨rfl, hb1⟩; obtain ⟨hc1, hf1⟩ := bcell hb1; have hz1 : w.heap.size < w1.heap.size := new_lt' hb1; have B1 := below_step (w := w) (by repeat (first | assumption | exact Below.refl _ _ | apply below_alloc | apply below_drew)) hb1)
    | (go_at_call 42; refine (align_121 _).mono ?_; rintro r w2 ⟨rfl, rfl⟩)
    | (go_at_call 41; refine (align0 e q 1 hq0 hq1 (by decide) (Int.tmod_one q) _ ((B1.cell (p := ⟨e, 3, none⟩) he).trans c3)).mono ?_; rintro r w3 ⟨rfl, rfl⟩)
    | (go_at_call 44; refine (zKind_121 _ _).mono ?_; rintro r w4 ⟨rfl, hb4⟩; obtain ⟨hc4, hf4⟩ := bcell hb4; have hz4 : w.heap.size < w4.heap.size := Nat.lt_of_lt_of_le hz1 hb4.size; have B4 := below_step (w := w) (by repeat (first | assumption | exact Below.refl _ _ | apply below_alloc | apply below_drew)) hb4)
    | (go_at_call 45; refine (zNum_121 v (by omega) (by omega) _).mono ?_; rintro r w5 ⟨rfl, hb5⟩; obtain ⟨hc5, hf5⟩ := bcell hb5; have hz5 : w.heap.size < w5.heap.size := Nat.lt_of_lt_of_le hz4 (Nat.le_trans (by simp) hb5.size); have B5 := below_step (w := w) (by repeat (first | assumption | exact Below.refl _ _ | apply below_alloc | apply below_drew)) hb5)
    | fail)
  have hold : w5.cell? ⟨w4.heap.size, 0, none⟩ = some (.int .u8 0) := by rw [hc5 _ _ (by simp)]; simp
  have hcs : ∀ j x, (Lib.byteCells [UInt8.ofNat v])[j]? = some x → ((w5.setCell ⟨w4.heap.size, 0, none⟩ (.int .u8 v)).drew).cell? ((⟨w4.heap.size, 0, none⟩ : Addr).add j) = some x := by
    intro j x hj
    obtain ⟨hj1, hj2⟩ := List.getElem?_eq_some_iff.1 hj
    obtain rfl : j = 0 := by rw [Lib.byteCells_length] at hj1; simpa using hj1
    rw [Lib.addr_add, ← hj2]
    show (w5.setCell ⟨w4.heap.size, 0, none⟩ (.int .u8 v)).cell? ⟨w4.heap.size, 0, none⟩ = some (.int .u8 ((UInt8.ofNat v).toNat : Int))
    rw [World.cell?_setCell_same w5 _ _ hold, UInt8.toNat_ofNat', Nat.mod_eq_of_lt hv]
  have HW2 := Aside0.mk (HHW.out ((w5.setCell ⟨w4.heap.size, 0, none⟩ (.int .u8 v)).drew) w4.heap.size 1 (below_drew (B5.setCell (p := ⟨w4.heap.size, 0, none⟩) B4.size _)) B4.size hcs)
  have hne : w4.heap.size ≠ e := Nat.ne_of_gt (Nat.lt_of_lt_of_le he B4.size)
  have d0 : w5.cell? ⟨e, 0, none⟩ = some (.iface 71 (.pointer (some ⟨b, 0, none⟩))) := (B5.cell (p := ⟨e, 0, none⟩) he).trans c0
  have d1 : (w5.setCell ⟨w4.heap.size, 0, none⟩ (.int .u8 v)).cell? ⟨e, 0, none⟩ = some (.iface 71 (.pointer (some ⟨b, 0, none⟩))) := (World.cell?_setCell_far _ _ _ _ hne).trans d0
  clear hcs hold
  go_region_with (go_at_call 124; refine (HW2.out).mono ?_; rintro r w6 ⟨rfl, hr6⟩; have HR6 := Aside0.mk hr6; obtain ⟨p6, f6⟩ := HHR.out w6 hr6; clear hr6)
  all_goals
    go_wp2
    refine bodyPost_end (results_none (by rfl) _ _ _) rfl ⟨rfl, w6, HR6.out, rfl⟩
end Go.Proofs.YtldjigfnagfalaaGreatDoor.Given
end
section
namespace Go.Proofs.YtldjigfnagfalaaGreatDoor.Given
open Go.RowKit Go.Proofs.YtldjigfnagfalaaGreatDoorW.PrintWords
set_option linter.unusedVariables false
def Encs (c : UInt8) (x : Value) (s : Int) (o : TypeId) (bytes : List UInt8) : Prop :=
  ∀ (w : World) (B e b : Nat) (q dep : Int) (bs : List UInt8), En w B e b o q bs → 0 ≤ dep → dep ≤ 64 → 0 ≤ q → q < 4611686018427387904 → q.tmod s = 0 → bs.length + bytes.length ≤ 140737488355328 →
    Calls Tryz.prog 36 #[.pointer (some ⟨e, 0, none⟩), .agg #[x, .string ⟨#[c]⟩], .int .i64 dep] w fun r w' => r = .returned (.tuple #[]) ∧ En w' B e b o (q + s) (bs ++ bytes) ∧ Below B w w'
theorem En.hR {w : World} {B e b : Nat} {o : TypeId} {q : Int} {bs bs2 : List UInt8} (h : En w B e b o q bs) : ∀ w', Rt w B b bs2 w' → w'.cell? ⟨e, 3, none⟩ = some (.int .i64 q) ∧ w'.frozen? ⟨e, 3, none⟩ = false := fun w' hr => by
  have hk := h.keeps hr
  exact ⟨by rw [Lib.cell_of_heap hk]; rfl, Lib.frozen_of_heap hk 3⟩
theorem En.done {w : World} {B e b f : Nat} {o : TypeId} {q q2 : Int} {bs bs2 : List UInt8} {args : Array Value} (h : En w B e b o q bs)
    (hc : Calls Tryz.prog f args w fun r w' => r = .returned (.tuple #[]) ∧ ∃ w1, Rt w B b bs2 w1 ∧ w' = w1.setCell ⟨e, 3, none⟩ (.int .i64 q2)) :
    Calls Tryz.prog f args w fun r w' => r = .returned (.tuple #[]) ∧ En w' B e b o q2 bs2 ∧ Below B w w' := by
  refine hc.mono ?_
  rintro r w' ⟨rfl, w1, hr, rfl⟩
  exact ⟨rfl, h.step hr⟩
end Go.Proofs.YtldjigfnagfalaaGreatDoor.Given
end
section
namespace Go.Proofs.YtldjigfnagfalaaGreatDoor.Given
open Go.RowKit Go.Proofs.YtldjigfnagfalaaGreatDoorW.PrintWords
set_option linter.unusedVariables false
end Go.Proofs.YtldjigfnagfalaaGreatDoor.Given
namespace Go.Proofs.YtldjigfnagfalaaGreatDoor.Given
open Go.RowKit Go.Proofs.YtldjigfnagfalaaGreatDoorW.PrintWords
set_option linter.unusedVariables false
abbrev encCells (b : Nat) (o : TypeId) (q : Int) : Obj := .cells #[.iface 71 (.pointer (some ⟨b, 0, none⟩)), .slice none 0 0, .iface o (.agg #[]), .int .i64 q] 94 (0, 0)
theorem cell_same {w w' : World} {a : Addr} (h : w'.heap[a.block]? = w.heap[a.block]?) : w'.cell? a = w.cell? a := by unfold World.cell?; rw [h]
theorem buf_above {B b : Nat} {bs : List Value} {w w' : World} (h : Lib.IsBuffer 68 5 B b bs w) (hk : ∀ x, B ≤ x → x < w.heap.size → w'.heap[x]? = w.heap[x]?) : Lib.IsBuffer 68 5 B b bs w' := by
  have hlt := h.lt
  obtain ⟨hB, v, lr, hbk, hown, hne⟩ := h
  refine ⟨hB, v, lr, (hk b hB hlt).trans hbk, ⟨hown.1, ?_⟩, hne⟩
  rcases hown.2 with hn | ⟨g, cap, cur, hv, hBg, hg, rest⟩
  · exact .inl hn
  · exact .inr ⟨g, cap, cur, hv, hBg, (hk g hBg (Lib.lt_of_heap hg)).trans hg, rest⟩
def ordOf (big : Bool) : TypeId := if big then 96 else 97
def cntBytes (big : Bool) (n : Nat) : List UInt8 := if big then Lib.beBytes 4 n else Lib.leBytes 4 n
theorem cntBytes_length (big : Bool) (n : Nat) : (cntBytes big n).length = 4 := by
  unfold cntBytes; split
  · exact Lib.beBytes_length 4 n
  · exact Lib.leBytes_length 4 n
def R1 (W : World) (B b : Nat) (bytes : List UInt8) (w' : World) : Prop := ∃ gg, W.heap.size ≤ gg ∧ Sm w' B b gg bytes ∧ (∀ x, x < W.heap.size → x ≠ b → w'.heap[x]? = W.heap[x]?) ∧ Below B W w'
theorem mk4_4 (W : World) : (Instr.makeSlice 24 (.int .i64 4) (.int .i64 4)).run Tryz.prog W = .ok (.slice (some ⟨W.heap.size, 0, none⟩) 4 4) (W.alloc (.cells (Array.replicate 4 (.int .u8 0)) 5)) := by kernel_rfl
attribute [local go_sem] mk4_4 me_write
end Go.Proofs.YtldjigfnagfalaaGreatDoor.Given
namespace Go.Proofs.YtldjigfnagfalaaGreatDoor.Given
open Go.RowKit Go.Proofs.YtldjigfnagfalaaGreatDoorW.PrintWords
set_option linter.unusedVariables false
attribute [local go_sem] me_write
def Only (b : Nat) (w w' : World) : Prop := w'.heap.size = w.heap.size ∧ ∀ x, x ≠ b → w'.heap[x]? = w.heap[x]?
theorem Only.refl (b : Nat) (w : World) : Only b w w := ⟨rfl, fun _ _ => rfl⟩
theorem Only.trans {b : Nat} {a c d : World} (h : Only b a c) (k : Only b c d) : Only b a d := ⟨k.1.trans h.1, fun x hx => (k.2 x hx).trans (h.2 x hx)⟩
theorem Only.set {b : Nat} {a c : World} (h : Only b a c) (i : Nat) (v : Value) : Only b a (c.setCell ⟨b, i, none⟩ v) :=
  ⟨by rw [← h.1]; simp [World.setCell], fun x hx => (Below.heap_setCell _ _ _ _ hx).trans (h.2 x hx)⟩
theorem Only.drewN {b : Nat} {a c : World} (h : Only b a c) (k : Nat) : Only b a (c.drewN k) := h
theorem Only.drew {b : Nat} {a c : World} (h : Only b a c) : Only b a c.drew := h
theorem buf_only {B b b1 : Nat} {bs : List Value} {cs : Array Value} {w w' : World} (h : Lib.IsBuffer 68 5 B b bs w) (hk : Only b1 w w') (h1 : w.heap[b1]? = some (.cells cs 68 (0, 0))) (hb : b ≠ b1) : Lib.IsBuffer 68 5 B b bs w' := by
  obtain ⟨hB, v, lr, hbk, hown, hne⟩ := h
  refine ⟨hB, v, lr, (hk.2 b hb).trans hbk, ⟨hown.1, ?_⟩, hne⟩
  rcases hown.2 with hn | ⟨g, cap, cur, hv, hBg, hg, rest⟩
  · exact .inl hn
  · refine .inr ⟨g, cap, cur, hv, hBg, (hk.2 g ?_).trans hg, rest⟩
    rintro rfl
    have := hg.symm.trans h1; simp at this
set_option maxHeartbeats 4000000 in
set_option maxRecDepth 100000 in
theorem reset_nil (b : Nat) (off lr : Int) (w : World) (hbk : w.heap[b]? = some (.cells #[.slice none 0 0, .int .i64 off, .int .i8 lr] 68 (0, 0))) :
    Calls Tryz.prog 88 #[.pointer (some ⟨b, 0, none⟩)] w fun r w' => r = .returned (.tuple #[]) ∧ Only b w w' ∧ ∀ B, B ≤ b → Below B w w' := by
  have c0 : w.cell? ⟨b, 0, none⟩ = some (.slice none 0 0) := by rw [Lib.cell_of_heap hbk]; rfl
  have c1 : w.cell? ⟨b, 1, none⟩ = some (.int .i64 off) := by rw [Lib.cell_of_heap hbk]; rfl
  have c2 : w.cell? ⟨b, 2, none⟩ = some (.int .i8 lr) := by rw [Lib.cell_of_heap hbk]; rfl
  have f0 : w.frozen? ⟨b, 0, none⟩ = false := Lib.frozen_of_heap hbk 0
  have f1 : w.frozen? ⟨b, 1, none⟩ = false := Lib.frozen_of_heap hbk 1
  have f2 : w.frozen? ⟨b, 2, none⟩ = false := Lib.frozen_of_heap hbk 2
  clear hbk
  go_enter Tryz.func88, Tryz.ntmps88
  go_wp2
  refine bodyPost_end (results_none (by rfl) _ _ _) rfl ⟨rfl, (((Only.refl b w).set 0 _).set 1 _).set 2 _, fun B hB => (((Below.refl B w).setCell (p := ⟨b, 0, none⟩) hB _).setCell (p := ⟨b, 1, none⟩) hB _).setCell (p := ⟨b, 2, none⟩) hB _⟩
set_option maxHeartbeats 4000000 in
set_option maxRecDepth 100000 in
theorem reset_row (b g l cap : Nat) (off lr : Int) (w : World) (hl : l ≤ cap) (hcm : cap ≤ maxLen) (hbk : w.heap[b]? = some (.cells #[.slice (some ⟨g, 0, none⟩) l cap, .int .i64 off, .int .i8 lr] 68 (0, 0))) :
    Calls Tryz.prog 88 #[.pointer (some ⟨b, 0, none⟩)] w fun r w' => r = .returned (.tuple #[]) ∧ Only b w w' ∧ ∀ B, B ≤ b → Below B w w' := by
  have c0 : w.cell? ⟨b, 0, none⟩ = some (.slice (some ⟨g, 0, none⟩) l cap) := by rw [Lib.cell_of_heap hbk]; rfl
  have c1 : w.cell? ⟨b, 1, none⟩ = some (.int .i64 off) := by rw [Lib.cell_of_heap hbk]; rfl
  have c2 : w.cell? ⟨b, 2, none⟩ = some (.int .i8 lr) := by rw [Lib.cell_of_heap hbk]; rfl
  have f0 : w.frozen? ⟨b, 0, none⟩ = false := Lib.frozen_of_heap hbk 0
  have f1 : w.frozen? ⟨b, 1, none⟩ = false := Lib.frozen_of_heap hbk 1
  have f2 : w.frozen? ⟨b, 2, none⟩ = false := Lib.frozen_of_heap hbk 2
  unfold maxLen at hcm
  clear hbk
  go_enter Tryz.func88, Tryz.ntmps88
  go_wp2
  refine bodyPost_end (results_none (by rfl) _ _ _) rfl ⟨rfl, (((Only.refl b w).set 0 _).set 1 _).set 2 _, fun B hB => (((Below.refl B w).setCell (p := ⟨b, 0, none⟩) hB _).setCell (p := ⟨b, 1, none⟩) hB _).setCell (p := ⟨b, 2, none⟩) hB _⟩
end Go.Proofs.YtldjigfnagfalaaGreatDoor.Given
namespace Go.Proofs.YtldjigfnagfalaaGreatDoor.Given
open Go.RowKit Go.Proofs.YtldjigfnagfalaaGreatDoorW.PrintWords
set_option linter.unusedVariables false
theorem na_write (b : Nat) (W : World) : (nilAhead 337 71 (.pointer (some ⟨b, 0, none⟩)) "Write").run Tryz.prog W = .ok (some false) W := by kernel_rfl
attribute [local go_sem] me_write na_write
theorem below_drewN {B : Nat} {a c : World} (h : Below B a c) (k : Nat) : Below B a (c.drewN k) :=
  have hb := ((Drawn0.refl c).step k).below
  h.trans ⟨hb.os, hb.tape, hb.output, hb.size, fun _ _ => rfl⟩
set_option maxHeartbeats 8000000 in
set_option maxRecDepth 100000 in
theorem writeTo_none (B1 b b1 : Nat) (w : World) (hI : Lib.IsBuffer 68 5 B1 b1 [] w) :
    Calls Tryz.prog 60 #[.pointer (some ⟨b1, 0, none⟩), .iface 71 (.pointer (some ⟨b, 0, none⟩))] w fun r w' => r = .returned (.tuple #[.int .i64 0, .nilIface]) ∧ Only b1 w w' ∧ ∀ B, B ≤ b1 → Below B w w' := by
  have hcs := hI.cases
  obtain ⟨hB, lr, hc⟩ := hcs
  have hbk : ∃ v, w.heap[b1]? = some (.cells #[v, .int .i64 0, .int .i8 lr] 68 (0, 0)) := by
    rcases hc with ⟨-, h⟩ | ⟨g, cap, cur, h, -⟩
    · exact ⟨_, h⟩
    · exact ⟨_, h⟩
  obtain ⟨v, hbk⟩ := hbk
  have c2 : w.cell? ⟨b1, 2, none⟩ = some (.int .i8 lr) := by rw [Lib.cell_of_heap hbk]; rfl
  have f2 : w.frozen? ⟨b1, 2, none⟩ = false := Lib.frozen_of_heap hbk 2
  have HI := Aside0.mk (hI.setLast 0)
  have HC := Aside0.mk hc
  clear hI hc hbk
  go_enter Tryz.func60, Tryz.ntmps60
  go_wp2_with fail
  refine (Tryz.Buffer_Len B1 b1 [] _ HI.out).mono ?_
  rintro r w1 ⟨rfl, k, rfl⟩
  go_wp2_with fail
  have hr : Calls Tryz.prog 88 #[.pointer (some ⟨b1, 0, none⟩)] ((w.setCell ⟨b1, 2, none⟩ (.int .i8 0)).drewN k) fun r w' => r = .returned (.tuple #[]) ∧ Only b1 ((w.setCell ⟨b1, 2, none⟩ (.int .i8 0)).drewN k) w' ∧ ∀ B, B ≤ b1 → Below B ((w.setCell ⟨b1, 2, none⟩ (.int .i8 0)).drewN k) w' := by
    rcases HC.out with ⟨-, h⟩ | ⟨g, cap, cur, h, -, -, hnc, hcm, -, -, -⟩
    · exact reset_nil b1 0 0 _ (Lib.heap_setCell_same (i := 2) h (.int .i8 0))
    · exact reset_row b1 g _ cap 0 0 _ hnc hcm (Lib.heap_setCell_same (i := 2) h (.int .i8 0))
  have HR := Aside0.mk hr
  clear hr
  refine (HR.out).mono ?_
  rintro r w1 ⟨rfl, ho, hb⟩
  have HO := Aside0.mk ho
  have HBB := Aside0.mk hb
  clear ho hb
  go_wp2_with fail
  go_ret2
  exact ⟨rfl, (((Only.refl b1 w).set 2 _).drewN k).trans HO.out, fun B hB => (below_drewN ((Below.refl B w).setCell (p := ⟨b1, 2, none⟩) hB (.int .i8 0)) k).trans (HBB.out B hB)⟩
set_option maxHeartbeats 8000000 in
set_option maxRecDepth 100000 in
theorem writeTo_some (B B1 b b1 : Nat) (obs bs : List UInt8) (h0 : bs ≠ []) (w : World) (hO : Lib.IsBuffer 68 5 B b (Lib.byteCells obs) w) (hI : Lib.IsBuffer 68 5 B1 b1 (Lib.byteCells bs) w) (hbb : b ≠ b1) (hBb1 : B ≤ b1) (hBw : B ≤ w.heap.size) (hlim : obs.length + bs.length ≤ 140737488355328) (hl2 : bs.length ≤ 1000000) :
    Calls Tryz.prog 60 #[.pointer (some ⟨b1, 0, none⟩), .iface 71 (.pointer (some ⟨b, 0, none⟩))] w fun r w' => r = .returned (.tuple #[.int .i64 bs.length, .nilIface]) ∧ Lib.IsBuffer 68 5 B b (Lib.byteCells (obs ++ bs)) w' ∧ Below B w w' ∧ ∀ (x : Nat) (ob : Obj), w.heap[x]? = some ob → x ≠ b → x ≠ b1 → (∀ c fz, ob ≠ .cells c 5 fz) → w'.heap[x]? = some ob := by
  obtain ⟨hB1, lr, hc⟩ := hI.cases
  rcases hc with ⟨hnil, -⟩ | ⟨g, cap, cur, hbk, hBg, hg, hnc, hcm, hcs, htk, hgb⟩
  · exact absurd (by have := congrArg List.length hnil; rw [Lib.byteCells_length] at this; exact List.eq_nil_of_length_eq_zero this) h0
  rw [Lib.byteCells_length] at hbk hnc htk
  have hpos : 0 < bs.length := List.length_pos_iff.2 h0
  have c2 : w.cell? ⟨b1, 2, none⟩ = some (.int .i8 lr) := by rw [Lib.cell_of_heap hbk]; rfl
  have f2 : w.frozen? ⟨b1, 2, none⟩ = false := Lib.frozen_of_heap hbk 2
  have hbk1 : (w.setCell ⟨b1, 2, none⟩ (.int .i8 0)).heap[b1]? = some (.cells #[.slice (some ⟨g, 0, none⟩) bs.length cap, .int .i64 0, .int .i8 0] 68 (0, 0)) := Lib.heap_setCell_same (i := 2) hbk (.int .i8 0)
  have hg1 : (w.setCell ⟨b1, 2, none⟩ (.int .i8 0)).heap[g]? = some (.cells cur 5 (0, 0)) := by rw [Below.heap_setCell _ _ _ _ hgb]; exact hg
  have hO1 := buf_only hO ((Only.refl b1 w).set 2 (.int .i8 0)) hbk hbb
  have hgb2 : g ≠ b := by
    rintro rfl
    obtain ⟨-, v, lr2, hv, -⟩ := hO
    have := hg.symm.trans hv; simp at this
  have HI := Aside0.mk (hI.setLast 0)
  have HO1 := Aside0.mk hO1
  have HBK := Aside0.mk hbk1
  have HG := Aside0.mk hg1
  have HTK := Aside0.mk htk
  have HCS := Aside0.mk hcs
  have HB0 := Aside0.mk ((Below.refl B w).setCell (p := ⟨b1, 2, none⟩) hBb1 (.int .i8 0))
  have hls : (w.setCell ⟨b1, 2, none⟩ (.int .i8 0)).heap.size = w.heap.size := size_setCell _ _ _
  unfold maxLen at hcm
  clear hbk hg hO hI hbk1 hg1 hO1 htk hcs
  go_enter Tryz.func60, Tryz.ntmps60
  go_wp2_with fail
  refine (Tryz.Buffer_Len B1 b1 (Lib.byteCells bs) _ HI.out).mono ?_
  rintro r w1 ⟨rfl, k, hw1⟩
  rw [Lib.byteCells_length]
  have hW : Aside0 (Only b1 w w1) := ⟨hw1 ▸ (((Only.refl b1 w).set 2 (.int .i8 0)).drewN k)⟩
  have HBK1 : Aside0 (w1.heap[b1]? = some (.cells #[.slice (some ⟨g, 0, none⟩) bs.length cap, .int .i64 0, .int .i8 0] 68 (0, 0))) := ⟨by rw [hw1]; exact HBK.out⟩
  have HG1 : Aside0 (w1.heap[g]? = some (.cells cur 5 (0, 0))) := ⟨by rw [hw1]; exact HG.out⟩
  have HO2 : Aside0 (Lib.IsBuffer 68 5 B b (Lib.byteCells obs) w1) := ⟨hw1 ▸ HO1.out.drewN k⟩
  have HB1 : Aside0 (Below B w w1) := ⟨hw1 ▸ below_drewN HB0.out k⟩
  have hz1 : w1.heap.size = w.heap.size := hW.out.1
  clear hw1 HBK HG HO1 HB0 hls c2 f2
  have c0 : w1.cell? ⟨b1, 0, none⟩ = some (.slice (some ⟨g, 0, none⟩) bs.length cap) := by rw [Lib.cell_of_heap HBK1.out]; rfl
  have c1 : w1.cell? ⟨b1, 1, none⟩ = some (.int .i64 0) := by rw [Lib.cell_of_heap HBK1.out]; rfl
  have hsrc : ∀ j v, (Lib.byteCells bs)[j]? = some v → w1.drew.cell? ((⟨g, 0, none⟩ : Addr).add j) = some v := by
    rw [← HTK.out]
    exact Lib.cells_of_row (w := w1.drew) HG1.out bs.length
  have hwr := Tryz.Buffer_Write_any B b (Lib.byteCells obs) (Lib.byteCells bs) ⟨g, 0, none⟩ bs.length cap w1.drew HO2.out.drew (show B ≤ w1.heap.size by omega) (one_bytes obs) (Lib.byteCells_length bs) (show g ≠ b from hgb2) hsrc (one_bytes bs) (by rw [Lib.byteCells_length]; exact hlim)
  have HWR := Aside0.mk hwr
  clear hwr hsrc
  go_wp2_with fail
  go_region_held3 (fun w' => w'.cell? ⟨b1, 0, none⟩ = some (.slice (some ⟨g, 0, none⟩) bs.length cap) ∧ w'.cell? ⟨b1, 1, none⟩ = some (.int .i64 0))
    (first | exact ⟨y0, y1⟩ | exact ⟨c0, c1⟩)
    (first
      | (go_at_call 124; refine (HWR.out).mono ?_; rintro r w2 ⟨rfl, hI2, hB2, hK2⟩; have hbk2 := hK2 b1 _ HBK1.out (fun e => hbb (Option.some.inj e).symm) (by intro c fz hc; cases hc); have y0 : w2.cell? ⟨b1, 0, none⟩ = some (.slice (some ⟨g, 0, none⟩) bs.length cap) := by { rw [Lib.cell_of_heap hbk2]; rfl }; have y1 : w2.cell? ⟨b1, 1, none⟩ = some (.int .i64 0) := by { rw [Lib.cell_of_heap hbk2]; rfl }; have HBK2 := Aside0.mk hbk2; have HI2 := Aside0.mk hI2; have HB2 := Aside0.mk hB2; have HK2 := Aside0.mk hK2; clear hbk2 hI2 hB2 hK2))
  have f1 : w2.frozen? ⟨b1, 1, none⟩ = false := Lib.frozen_of_heap HBK2.out 1
  go_wp2_with fail
  have hbk3 : (w2.setCell ⟨b1, 1, none⟩ (.int .i64 bs.length)).heap[b1]? = some (.cells #[.slice (some ⟨g, 0, none⟩) bs.length cap, .int .i64 bs.length, .int .i8 0] 68 (0, 0)) := Lib.heap_setCell_same (i := 1) HBK2.out (.int .i64 bs.length)
  have HR := Aside0.mk (reset_row b1 g bs.length cap bs.length 0 _ hnc (by unfold maxLen; exact hcm) hbk3)
  clear hbk3
  refine (HR.out).mono ?_
  rintro r w3 ⟨rfl, ho, hb⟩
  have HO3 := Aside0.mk ho
  have HB3 := Aside0.mk hb
  clear ho hb
  go_wp2_with fail
  go_ret2
  have hol : Only b1 w2 w3 := ((Only.refl b1 w2).set 1 (.int .i64 bs.length)).trans HO3.out
  refine ⟨rfl, ?_, ?_, ?_⟩
  · rw [Lib.byteCells_append]
    exact buf_only HI2.out hol HBK2.out hbb
  · exact (HB1.out.drew.trans (HB2.out.setCell (p := ⟨b1, 1, none⟩) hBb1 (.int .i64 bs.length))).trans (HB3.out B hBb1)
  · intro x ob hx hx2 hx1 hob
    have hxw : w1.drew.heap[x]? = some ob := (hW.out.2 x hx1).trans hx
    exact (hol.2 x hx1).trans (HK2.out x _ hxw (fun e => hx2 (Option.some.inj e)) hob)
end Go.Proofs.YtldjigfnagfalaaGreatDoor.Given
namespace Go.Proofs.YtldjigfnagfalaaGreatDoor.Given
open Go.RowKit Go.Proofs.YtldjigfnagfalaaGreatDoorW.PrintWords
set_option linter.unusedVariables false
def Padded (B e b g : Nat) (o : TypeId) (h0 : Int) (bs : List UInt8) (w w' : World) : Prop :=
  Sm w' B b g (bs ++ List.replicate (h0 - 4).toNat 0) ∧ w'.heap[e]? = some (encCells b o h0) ∧ Below B w w' ∧ ∀ x, x < w.heap.size → x ≠ b → x ≠ g → x ≠ e → w'.heap[x]? = w.heap[x]?
def Written (B b b1 : Nat) (bs : List UInt8) (w w' : World) : Prop :=
  Lib.IsBuffer 68 5 B b (Lib.byteCells bs) w' ∧ Below B w w' ∧ ∀ (x : Nat) (ob : Obj), w.heap[x]? = some ob → x ≠ b → x ≠ b1 → (∀ c fz, ob ≠ .cells c 5 fz) → w'.heap[x]? = some ob
theorem writeTo (B B1 b b1 : Nat) (obs bs : List UInt8) (w : World) (hO : Lib.IsBuffer 68 5 B b (Lib.byteCells obs) w) (hI : Lib.IsBuffer 68 5 B1 b1 (Lib.byteCells bs) w) (hbb : b ≠ b1) (hBb1 : B ≤ b1) (hBw : B ≤ w.heap.size) (hlim : obs.length + bs.length ≤ 140737488355328) (hl2 : bs.length ≤ 1000000) :
    Calls Tryz.prog 60 #[.pointer (some ⟨b1, 0, none⟩), .iface 71 (.pointer (some ⟨b, 0, none⟩))] w fun r w' => r = .returned (.tuple #[.int .i64 bs.length, .nilIface]) ∧ Written B b b1 (obs ++ bs) w w' := by
  by_cases h0 : bs = []
  · subst h0
    have hT : ∃ cs, w.heap[b1]? = some (.cells cs 68 (0, 0)) := by obtain ⟨-, v, lr, h, -⟩ := hI; exact ⟨_, h⟩
    obtain ⟨cs1, hcs⟩ := hT
    refine (writeTo_none B1 b b1 w hI).mono ?_
    rintro r w' ⟨rfl, ho, hb⟩
    refine ⟨rfl, by rw [List.append_nil]; exact buf_only hO ho hcs hbb, hb B hBb1, fun x ob hx _ hx1 _ => (ho.2 x hx1).trans hx⟩
  · exact (writeTo_some B B1 b b1 obs bs h0 w hO hI hbb hBb1 hBw hlim hl2).mono fun r w' ⟨h1, h2⟩ => ⟨h1, h2⟩
end Go.Proofs.YtldjigfnagfalaaGreatDoor.Given
end
section
namespace Go.Proofs.YtldjigfnagfalaaGreatDoor.Given
open Go.RowKit Go.Proofs.YtldjigfnagfalaaGreatDoorW.PrintWords
set_option linter.unusedVariables false
theorem ofInt_wrap (b : BitVec 64) : BitVec.ofInt 64 (IntKind.i64.wrap ((b.toNat : Nat) : Int)) = b := by
  apply BitVec.eq_of_toNat_eq
  have := b.isLt
  rw [BitVec.toNat_ofInt, IntKind.wrap_i64]
  simp only [Nat.reducePow] at *
  omega
theorem clear_low (x : Nat) (p : Nat) (hp : p ≤ 62) (hx : x < 4611686018427387904) :
    Go.bits .and .i64 (x : Int) (Go.bits .xor .i64 (-1) (2 ^ p - 1)) = ((x / 2 ^ p * 2 ^ p : Nat) : Int) := by
  have hpos : 0 < 2 ^ p := Nat.two_pow_pos p
  have hc : ((2 : Int) ^ p - 1) = ((2 ^ p - 1 : Nat) : Int) := by
    rw [Int.natCast_sub hpos]; simp
  have e1 : Go.bits .xor .i64 (-1) (2 ^ p - 1) = IntKind.i64.wrap (((BitVec.ofInt 64 (-1) ^^^ BitVec.ofInt 64 (2 ^ p - 1)).toNat : Nat) : Int) := rfl
  have e2 : Go.bits .and .i64 (x : Int) (Go.bits .xor .i64 (-1) (2 ^ p - 1)) = IntKind.i64.wrap (((BitVec.ofInt 64 x &&& (BitVec.ofInt 64 (-1) ^^^ BitVec.ofInt 64 (2 ^ p - 1))).toNat : Nat) : Int) := by
    conv => lhs; rw [e1]
    show IntKind.i64.wrap (((BitVec.ofInt 64 x &&& BitVec.ofInt 64 (IntKind.i64.wrap _)).toNat : Nat) : Int) = _
    rw [ofInt_wrap]
  have e3 : (BitVec.ofInt 64 x &&& (BitVec.ofInt 64 (-1) ^^^ BitVec.ofInt 64 (2 ^ p - 1))).toNat = x / 2 ^ p * 2 ^ p := by
    apply Nat.eq_of_testBit_eq
    intro i
    rw [hc, BitVec.ofInt_natCast, BitVec.ofInt_natCast, show (BitVec.ofInt 64 (-1)) = BitVec.allOnes 64 from by decide]
    rw [BitVec.testBit_toNat, BitVec.getLsbD_and, BitVec.getLsbD_xor, BitVec.getLsbD_allOnes, BitVec.getLsbD_ofNat, BitVec.getLsbD_ofNat, Nat.testBit_two_pow_sub_one, Nat.testBit_mul_two_pow, Nat.testBit_div_two_pow]
    by_cases h1 : i < 64
    · by_cases h2 : i < p
      · simp [h1, h2, show ¬ p ≤ i by omega]
      · simp [h1, h2, show p ≤ i by omega]
    · have : x.testBit i = false := Nat.testBit_lt_two_pow (Nat.lt_of_lt_of_le hx (Nat.le_trans (by decide : 4611686018427387904 ≤ 2 ^ 64) (Nat.pow_le_pow_right (by decide) (by omega))))
      simp [h1, show p ≤ i by omega, this]
  rw [e2, e3, IntKind.wrap_i64]
  have : x / 2 ^ p * 2 ^ p ≤ x := Nat.div_mul_le_self x (2 ^ p)
  omega
def pd (n a : Nat) : Nat := (n - a % n) % n
theorem pd_lt {n a : Nat} (h : 0 < n) : pd n a < n := Nat.mod_lt _ h
theorem pd_calc (p a : Nat) (n : Nat) (hn : n = 2 ^ p) (hp : p ≤ 3) (ha : a < 2305843009213693952) (h : a % n ≠ 0) :
    wrap64 (Go.bits .and .i64 ((a : Int) + n - 1) (Go.bits .xor .i64 (-1) ((n : Int) - 1)) - a) = (pd n a : Int) := by
  have hpos : 0 < n := by rw [hn]; exact Nat.two_pow_pos p
  have hle : n ≤ 8 := by rw [hn]; exact Nat.pow_le_pow_right (n := 2) (by decide) hp
  have e1 : (a : Int) + n - 1 = ((a + n - 1 : Nat) : Int) := by omega
  have e2 : (n : Int) - 1 = 2 ^ p - 1 := by
    have : ((2 : Int) ^ p) = (n : Int) := by rw [hn]; simp
    rw [this]
  rw [e1, e2, clear_low _ p (by omega) (by omega), ← hn]
  have h3 := Nat.div_add_mod a n
  have h4 := Nat.mod_lt a hpos
  have e3 : (a + n - 1) / n = a / n + 1 := by
    rw [show a + n - 1 = (a % n - 1) + n * (a / n + 1) by rw [Nat.mul_add]; omega, Nat.add_mul_div_left _ _ hpos, Nat.div_eq_of_lt (by omega)]; omega
  rw [e3, Nat.add_mul, Nat.mul_comm (a / n) n]
  unfold pd
  rw [Nat.mod_eq_of_lt (show n - a % n < n by omega)]
  unfold wrap64; omega
set_option maxHeartbeats 2000000 in
theorem padding_n (e q o n : Nat) (off s : Int) (ho : off = o) (hs : s = n) (hn : n = 1 ∨ n = 4 ∨ n = 8) (hq : q + o < 2305843009213693952) (w : World) (c3 : w.cell? ⟨e, 3, none⟩ = some (.int .i64 q)) :
    Calls Tryz.prog 56 #[.pointer (some ⟨e, 0, none⟩), .int .i64 off, .int .i64 s] w fun r w' => r = .returned (.int .i64 (pd n (q + o))) ∧ w = w' := by
  subst ho
  subst hs
  have hm : (((q : Int) + o) % n) = (((q + o) % n : Nat) : Int) := by simp
  have H0 : (((q : Int) + o) % n != 0) = false → (0 : Int) = (pd n (q + o) : Int) := by
    intro h
    have h0 : (q + o) % n = 0 := Int.ofNat.inj (hm.symm.trans (by simpa using h))
    unfold pd; rw [h0]; simp
  have H1 : (((q : Int) + o) % n != 0) = true → wrap64 (Go.bits .and .i64 ((q : Int) + o + n - 1) (Go.bits .xor .i64 (-1) ((n : Int) - 1)) - ((q : Int) + o)) = (pd n (q + o) : Int) := by
    intro h
    have h0 : (q + o) % n ≠ 0 := fun hz => by simp only [bne_iff_ne, ne_eq] at h; exact h (hm.trans (congrArg Int.ofNat hz))
    rw [show (q : Int) + o = ((q + o : Nat) : Int) by omega]
    rcases hn with rfl | rfl | rfl
    · omega
    · exact pd_calc 2 (q + o) 4 rfl (by decide) hq h0
    · exact pd_calc 3 (q + o) 8 rfl (by decide) hq h0
  have HP := Aside0.mk H1
  have HZ := Aside0.mk H0
  clear H0 H1 hm
  go_enter Tryz.func56, Tryz.ntmps56
  go_wp2
  · go_ret
    exact ⟨congrArg (fun x => Ending.returned (.int .i64 x)) (HP.out (by assumption)), rfl⟩
  · go_ret
    exact ⟨congrArg (fun x => Ending.returned (.int .i64 x)) (HZ.out (by assumption)), rfl⟩
end Go.Proofs.YtldjigfnagfalaaGreatDoor.Given
end

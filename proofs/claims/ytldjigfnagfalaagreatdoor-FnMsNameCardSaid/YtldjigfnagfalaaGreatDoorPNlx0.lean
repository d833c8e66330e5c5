/- Part of the proof of LawFnMsName. -/
import Derived.Test.YtldjigfnagfalaaGreatDoorGvPd
import Derived.Test.YtldjigfnagfalaaGreatDoorGvZs
import Derived.Laws.Externs
import Derived.Test.YtldjigfnagfalaaGreatDoorProg
import Derived.Below
import Derived.Deep.Draws
import Derived.Deep.AppendLies
import Derived.Maps.AppendAt
import Derived.OwnWalk
import Derived.Laws.BytesArg
import Derived.Laws.MakeOwn
import Derived.Laws.OwnMore
import Derived.Deep.OwnRows
import Derived.Tactics
import Derived.Lib.ConvBytes
import Derived.Laws.Slices
import Derived.WalkKit
import Derived.KernelRfl
import Derived.RowKit3
import Derived.Deep.LoopGhost
import Derived.Deep.QuietTactic
import Derived.BigQuiet
import Derived.WideLaws
import Derived.Deep.DeepCutAuto
import Derived.Deep.CutBlock
import Derived.Deep.RegionHeld3
import Derived.Laws.Rows
import Derived.Lib.AppendStr
import Derived.ArgAppend
import Derived.Laws.IdiomCopy
import Derived.OrdersHeld
import Derived.Laws.BitsLemmas
import Derived.RowKit
import Derived.Test.YtldjigfnagfalaaGreatDoorWWords
import Derived.Test.YtldjigfnagfalaaGreatDoorWFour
import Derived.Test.YtldjigfnagfalaaGreatDoorWInvWords
import Derived.Test.YtldjigfnagfalaaGreatDoorWGuard
import Derived.Test.YtldjigfnagfalaaGreatDoorWNEv
import Derived.Test.YtldjigfnagfalaaGreatDoorWMore
set_option linter.unusedVariables false
set_option linter.unusedSimpArgs false
section
namespace Go.Proofs.YtldjigfnagfalaaGreatDoor.Given
open Go.RowKit Go.Proofs.YtldjigfnagfalaaGreatDoorW.PrintWords
set_option linter.unusedVariables false
abbrev efCells (b : Nat) (o : TypeId) (f : Value) (q : Int) : Obj := .cells #[.iface 71 (.pointer (some ⟨b, 0, none⟩)), f, .iface o (.agg #[]), .int .i64 q] 94 (0, 0)
structure Ef (w : World) (B e b : Nat) (o : TypeId) (f : Value) (q : Nat) (bs : List UInt8) : Prop where
  enc : w.heap[e]? = some (efCells b o f q)
  buf : Lib.IsBuffer 68 5 B b (Lib.byteCells bs) w
  lo : B ≤ e
  low : B ≤ w.heap.size
theorem ef_cells {W : World} {e b : Nat} {o : TypeId} {f : Value} {q : Int} (h : W.heap[e]? = some (efCells b o f q)) :
    W.cell? ⟨e, 0, none⟩ = some (.iface 71 (.pointer (some ⟨b, 0, none⟩))) ∧ W.cell? ⟨e, 1, none⟩ = some f ∧ W.cell? ⟨e, 2, none⟩ = some (.iface o (.agg #[])) ∧ W.cell? ⟨e, 3, none⟩ = some (.int .i64 q) ∧ W.frozen? ⟨e, 1, none⟩ = false ∧ W.frozen? ⟨e, 3, none⟩ = false := by
  refine ⟨?_, ?_, ?_, ?_, Lib.frozen_of_heap h 1, Lib.frozen_of_heap h 3⟩ <;> (rw [Lib.cell_of_heap h]; rfl)
def Stays (e b : Nat) (w w' : World) : Prop := ∀ (x : Nat) (ob : Obj), w.heap[x]? = some ob → x ≠ e → x ≠ b → (∀ c fz, ob ≠ .cells c 5 fz) → w'.heap[x]? = some ob
theorem Stays.refl (e b : Nat) (w : World) : Stays e b w w := fun _ _ h _ _ _ => h
theorem Stays.trans {e b : Nat} {u v w : World} (h : Stays e b u v) (k : Stays e b v w) : Stays e b u w := fun x ob hx he hb ho => k x ob (h x ob hx he hb ho) he hb ho
theorem Stays.old {e b : Nat} {u v w : World} (h : Stays e b u v) (k : Below v.heap.size v w) : Stays e b u w := fun x ob hx he hb ho => (k.block x (Lib.lt_of_heap (h x ob hx he hb ho))).trans (h x ob hx he hb ho)
structure Eg (w0 w : World) (B e b : Nat) (o : TypeId) (f : Value) (q : Nat) (bs : List UInt8) : Prop where
  ef : Ef w B e b o f q bs
  below : Below B w0 w
  stays : Stays e b w0 w
theorem Ef.old {w w' : World} {B e b : Nat} {o : TypeId} {f : Value} {q : Nat} {bs : List UInt8} (h : Ef w B e b o f q bs) (hb : Below w.heap.size w w') : Ef w' B e b o f q bs :=
  ⟨(hb.block e (Lib.lt_of_heap h.enc)).trans h.enc, h.buf.old hb, h.lo, Nat.le_trans h.low hb.size⟩
theorem Ef.start {w : World} {B e b : Nat} {o : TypeId} {f : Value} {q : Nat} {bs : List UInt8} (h : Ef w B e b o f q bs) : Eg w w B e b o f q bs := ⟨h, Below.refl _ _, Stays.refl _ _ _⟩
theorem Eg.old {w0 w w' : World} {B e b : Nat} {o : TypeId} {f : Value} {q : Nat} {bs : List UInt8} (h : Eg w0 w B e b o f q bs) (hb : Below w.heap.size w w') : Eg w0 w' B e b o f q bs :=
  ⟨h.ef.old hb, h.below.trans (hb.mono h.ef.low), h.stays.old hb⟩
theorem Eg.trans {w0 w w' : World} {B e b : Nat} {o : TypeId} {f : Value} {q q2 : Nat} {bs bs2 : List UInt8} (h : Eg w0 w B e b o f q bs) (k : Eg w w' B e b o f q2 bs2) : Eg w0 w' B e b o f q2 bs2 :=
  ⟨k.ef, h.below.trans k.below, h.stays.trans k.stays⟩
theorem Ef.ne {w : World} {B e b : Nat} {o : TypeId} {f : Value} {q : Nat} {bs : List UInt8} (h : Ef w B e b o f q bs) : e ≠ b := by
  rintro rfl
  obtain ⟨_, lr, hc⟩ := h.buf.cases
  rcases hc with ⟨_, hbk⟩ | ⟨_, _, _, hbk, _⟩
  · have := h.enc.symm.trans hbk; simp at this
  · have := h.enc.symm.trans hbk; simp at this
theorem Ef.keeps {w w' : World} {B e b : Nat} {o : TypeId} {f : Value} {q : Nat} {bs bs2 : List UInt8} (h : Ef w B e b o f q bs) (hr : Rt w B b bs2 w') : w'.heap[e]? = some (efCells b o f q) :=
  hr.2.2 e _ h.enc (fun hx => h.ne (Option.some.inj hx)) (by intro c fz hc; cases hc)
theorem Ef.hR {w : World} {B e b : Nat} {o : TypeId} {f : Value} {q : Nat} {bs bs2 : List UInt8} (h : Ef w B e b o f q bs) : ∀ w', Rt w B b bs2 w' → w'.cell? ⟨e, 3, none⟩ = some (.int .i64 q) ∧ w'.frozen? ⟨e, 3, none⟩ = false := fun w' hr => by
  have hk := h.keeps hr
  exact ⟨by rw [Lib.cell_of_heap hk]; rfl, Lib.frozen_of_heap hk 3⟩
theorem Ef.step {w w1 : World} {B e b : Nat} {o : TypeId} {f : Value} {q : Nat} {bs bs2 : List UInt8} (h : Ef w B e b o f q bs) (hr : Rt w B b bs2 w1) (q2 : Nat) (v : Value) (hv : v = .int .i64 q2) : Eg w (w1.setCell ⟨e, 3, none⟩ v) B e b o f q2 bs2 := by
  subst hv
  have hk := h.keeps hr
  refine ⟨⟨heap_setCell_same w1 e 3 _ 94 _ hk, buf_set hr.1 hk _, h.lo, Nat.le_trans h.low (Nat.le_trans hr.2.1.size (by simp [World.setCell]))⟩, hr.2.1.setCell (p := ⟨e, 3, none⟩) h.lo _, fun x ob hx he hb ho => ?_⟩
  rw [Below.heap_setCell _ _ _ _ he]
  exact hr.2.2 x ob hx (fun hc => hb (Option.some.inj hc)) ho
theorem Ef.takes {w : World} {B e b : Nat} {o : TypeId} {f : Value} {q : Nat} {bs : List UInt8} (h : Ef w B e b o f q bs) (bytes : List UInt8) (hl : bs.length + bytes.length ≤ 140737488355328) : Takes w b bytes (Rt w B b (bs ++ bytes)) :=
  takes_inner B b bs bytes w h.buf h.low hl
theorem info5z : (Tryz.prog.info? 5).map (fun i => (i.zero, i.size, i.bytes)) = some (some (.int .u8 0), 1, 1) := by kernel_rfl
theorem mkB (p : Nat) (hp : p ≤ 16777216) (W : World) : (Instr.makeSlice 24 (.int .i64 p) (.int .i64 p)).run Tryz.prog W = .ok (.slice (some ⟨W.heap.size, 0, none⟩) p p) (W.alloc (.cells (Array.replicate p (.int .u8 0)) 5)) := by
  obtain ⟨i, hi, hz⟩ := Option.map_eq_some_iff.1 info5z
  simp only [Prod.mk.injEq] at hz
  obtain ⟨hz0, hz1, hz2⟩ := hz
  have h := run_makeSlice (P := Tryz.prog) W 24 5 i (.int .u8 0) Tryz.underlying24 hi hz0 .i64 .i64 (p : Int) (p : Int) (by omega) (Int.le_refl _) (by rw [hz1]; simp; omega) (by rw [hz2]; omega) (by omega)
  rw [h, hz1, Int.toNat_natCast, Nat.mul_one]
  have hc : madeCells (Value.int .u8 0).cells p = Array.replicate p (.int .u8 0) := by
    apply Array.toList_inj.1
    rw [Array.toList_replicate]
    exact toList_madeCells_one _ _
  rw [hc]
attribute [local go_sem] me_write
theorem zeros_cells (p : Nat) (W : World) : ∀ j v, (Lib.byteCells (List.replicate p 0))[j]? = some v → (W.alloc (.cells (Array.replicate p (.int .u8 0)) 5)).cell? ((⟨W.heap.size, 0, none⟩ : Addr).add j) = some v := by
  intro j v hj
  obtain ⟨hj1, hj2⟩ := List.getElem?_eq_some_iff.1 hj
  rw [Lib.byteCells_length, List.length_replicate] at hj1
  rw [Lib.addr_add, Lib.cell_of_heap (heap_alloc_new W _), Nat.zero_add, ← hj2]
  simp [Lib.byteCells, hj1]
set_option maxHeartbeats 4000000 in
theorem align_ef (w : World) (B e b : Nat) (o : TypeId) (f : Value) (q : Nat) (bs : List UInt8) (h : Ef w B e b o f q bs) (s : Int) (n : Nat) (hs : s = n) (hn : n = 1 ∨ n = 4 ∨ n = 8) (hq : q < 1152921504606846976) (hl : bs.length ≤ 1000000) :
    Calls Tryz.prog 41 #[.pointer (some ⟨e, 0, none⟩), .int .i64 s] w fun r w' => r = .returned (.tuple #[]) ∧ Eg w w' B e b o f (q + pd n q) (bs ++ List.replicate (pd n q) 0) := by
  obtain ⟨c0, -, -, c3, -, -⟩ := ef_cells h.enc
  have hle := Lib.lt_of_heap h.enc
  have hp8 : pd n q < 8 + 1 := by have := pd_lt (n := n) (a := q) (by omega); omega
  have hPD := padding_n e q 0 n 0 s rfl hs hn (by omega) w c3
  rw [Nat.add_zero] at hPD
  have HE := Aside0.mk h
  have HPD := Aside0.mk hPD
  obtain ⟨p, hp⟩ : ∃ p, p = pd n q := ⟨_, rfl⟩
  rw [← hp] at hp8 HPD ⊢
  clear h hPD hp hs hn
  go_enter Tryz.func41, Tryz.ntmps41
  go_wp2_with fail
  refine (HPD.out).mono ?_
  rintro r w1 ⟨rfl, rfl⟩
  clear HPD
  by_cases h0 : p = 0
  · subst h0
    go_wp2_with fail
    refine bodyPost_end (results_none (by rfl) _ _ _) rfl ⟨rfl, ?_⟩
    have := HE.out.start
    simpa using this
  · have hpos : (0 : Int) < (p : Int) := by omega
    have hmk := mkB p (by omega)
    have HW := Aside0.mk ((HE.out.takes (List.replicate p 0) (by rw [List.length_replicate]; omega)) (w.alloc (.cells (Array.replicate p (.int .u8 0)) 5)) w.heap.size p ((Below.refl _ _).alloc (Nat.le_refl _) _) (Nat.le_refl _) (zeros_cells p w))
    rw [List.length_replicate] at HW
    go_wp2_with fail
    refine (HW.out).mono ?_
    rintro r w2 ⟨rfl, hr⟩
    obtain ⟨d3, f3⟩ := HE.out.hR w2 hr
    have HR := Aside0.mk hr
    clear hr HW hmk
    go_wp2_with fail
    refine bodyPost_end (results_none (by rfl) _ _ _) rfl ⟨rfl, HE.out.step HR.out (q + p) _ ?_⟩
    first | rfl | (congr 1) | (unfold wrap64; omega)
end Go.Proofs.YtldjigfnagfalaaGreatDoor.Given
end
section
namespace Go.Proofs.YtldjigfnagfalaaGreatDoor.Given
open Go.RowKit Go.Proofs.YtldjigfnagfalaaGreatDoorW.PrintWords
set_option linter.unusedVariables false
theorem Eg.box {w0 w : World} {B e b : Nat} {o : TypeId} {f : Value} {q : Nat} {bs : List UInt8} (h : Eg w0 w B e b o f q bs) {x : Nat} {ob : Obj} (hx : w0.heap[x]? = some ob) (he : e ≠ x) (hb : b ≠ x) (ho : ∀ c fz, ob ≠ .cells c 5 fz) : w.heap[x]? = some ob :=
  h.stays x ob hx (Ne.symm he) (Ne.symm hb) ho
theorem Ef.boxed {w : World} {B e b : Nat} {o : TypeId} {f : Value} {q : Nat} {bs : List UInt8} (h : Ef w B e b o f q bs) (ob : Obj) : Eg w (w.alloc ob) B e b o f q bs ∧ (w.alloc ob).heap[w.heap.size]? = some ob ∧ e < w.heap.size ∧ b < w.heap.size :=
  ⟨h.start.old ((Below.refl _ _).alloc (Nat.le_refl _) _), heap_alloc_new w _, Lib.lt_of_heap h.enc, h.buf.lt⟩
theorem bw_u32 (big : Bool) (e b v : Nat) (hv : v < 4294967296) (R : World → Prop) (w : World) (c0 : w.cell? ⟨e, 0, none⟩ = some (.iface 71 (.pointer (some ⟨b, 0, none⟩)))) (c2 : w.cell? ⟨e, 2, none⟩ = some (.iface (ordOf big) (.agg #[]))) (HW : Takes w b (cntBytes big v) R) :
    Calls Tryz.prog 47 #[.pointer (some ⟨e, 0, none⟩), .iface 36 (.int .u32 v)] w fun r w' => r = .returned (.tuple #[]) ∧ R w' := by
  cases big
  · exact bw_u32_le e b v hv R w c0 c2 HW
  · exact bw_u32_be e b v hv R w c0 c2 HW
theorem boxed_cells {W : World} {x : Nat} {u v : Value} {T : TypeId} (h : W.heap[x]? = some (.cells #[u, v] T)) : W.cell? ⟨x, 0, none⟩ = some u ∧ W.cell? ⟨x, 1, none⟩ = some v :=
  ⟨by rw [Lib.cell_of_heap h]; rfl, by rw [Lib.cell_of_heap h]; rfl⟩
set_option maxHeartbeats 8000000 in
set_option maxRecDepth 100000 in
theorem ef_y (e b v : Nat) (hv : v < 256) (w : World) (B : Nat) (o : TypeId) (f : Value) (q : Nat) (dep : Int) (bs : List UInt8) (h : Ef w B e b o f q bs) (hd0 : 0 ≤ dep) (hd : dep ≤ 64) (hq : q < 1152921504606846976) (hl : bs.length ≤ 1000000) :
    Calls Tryz.prog 36 #[.pointer (some ⟨e, 0, none⟩), .agg #[.iface 5 (.int .u8 v), .string ⟨#[121]⟩], .int .i64 dep] w fun r w' => r = .returned (.tuple #[]) ∧ Eg w w' B e b o f (q + 1) (bs ++ [UInt8.ofNat v]) := by
  obtain ⟨c0, -, -, c3, -, -⟩ := ef_cells h.enc
  refine (en_121 e b v hv q dep hd0 hd (by omega) (by omega) _ w c0 c3 (h.takes [UInt8.ofNat v] (by simp; omega)) h.hR).mono ?_
  rintro r w' ⟨rfl, w1, hr, rfl⟩
  exact ⟨rfl, h.step hr (q + 1) _ rfl⟩
set_option maxHeartbeats 8000000 in
set_option maxRecDepth 100000 in
theorem ef_u (big : Bool) (e b v : Nat) (hv : v < 4294967296) (w : World) (B : Nat) (f : Value) (q : Nat) (dep : Int) (bs : List UInt8) (h : Ef w B e b (ordOf big) f q bs) (hd0 : 0 ≤ dep) (hd : dep ≤ 64) (hq : q < 576460752303423488) (hl : bs.length ≤ 900000) :
    Calls Tryz.prog 36 #[.pointer (some ⟨e, 0, none⟩), .agg #[.iface 36 (.int .u32 v), .string ⟨#[117]⟩], .int .i64 dep] w fun r w' => r = .returned (.tuple #[]) ∧ Eg w w' B e b (ordOf big) f (q + pd 4 q + 4) (bs ++ List.replicate (pd 4 q) 0 ++ cntBytes big v) := by
  obtain ⟨hA, hbx, hle, hlb⟩ := h.boxed (.cells #[.iface 36 (.int .u32 v), .string ⟨#[117]⟩] 102)
  have hne : e ≠ w.heap.size := by omega
  have hneb : b ≠ w.heap.size := by omega
  have hp4 : pd 4 q < 4 := pd_lt (by decide)
  have HA := Aside0.mk hA
  have HBX := Aside0.mk hbx
  clear h hA hbx
  go_enter Tryz.func36, Tryz.ntmps36
  go_wp2_with fail
  refine (zType _ _ _).mono ?_
  rintro r w1 ⟨rfl, hb1⟩
  have HA := Aside0.mk (HA.out.old hb1)
  have HBX : Aside0 (w1.heap[w.heap.size]? = some (.cells #[.iface 36 (.int .u32 v), .string ⟨#[117]⟩] 102)) := ⟨(hb1.block w.heap.size (by simp)).trans HBX.out⟩
  clear hb1
  go_wp2_with fail
  refine (align_117 _).mono ?_
  rintro r w2 ⟨rfl, rfl⟩
  go_wp2_with fail
  refine (align_ef w1 B e b (ordOf big) f q bs HA.out.ef 4 4 rfl (by decide) (by omega) (by omega)).mono ?_
  rintro r w3 ⟨rfl, hE3⟩
  have HBX := Aside0.mk (hE3.box HBX.out hne hneb (by intro c fz hc; cases hc))
  have HA := Aside0.mk (HA.out.trans hE3)
  clear hE3
  obtain ⟨x0, x1⟩ := boxed_cells HBX.out
  go_wp2_with fail
  refine (zKind_117 _ _).mono ?_
  rintro r w4 ⟨rfl, hb4⟩
  have HBX : Aside0 (w4.heap[w.heap.size]? = some (.cells #[.iface 36 (.int .u32 v), .string ⟨#[117]⟩] 102)) := ⟨(hb4.block w.heap.size (Lib.lt_of_heap HBX.out)).trans HBX.out⟩
  have HA := Aside0.mk (HA.out.old hb4)
  clear hb4 x0 x1
  obtain ⟨x0, x1⟩ := boxed_cells HBX.out
  go_wp2_with fail
  refine (zNum_117 v (by omega) (by omega) _).mono ?_
  rintro r w5 ⟨rfl, hb5⟩
  have HA := Aside0.mk (HA.out.old hb5)
  clear hb5 x0 x1 HBX
  have hwv : IntKind.u32.wrap (v : Int) = v := by unfold IntKind.wrap; simp [IntKind.signed, IntKind.bits]; omega
  obtain ⟨c0, -, c2, -, -, -⟩ := ef_cells HA.out.ef.enc
  have HBW := Aside0.mk (bw_u32 big e b v hv _ w5 c0 c2 (HA.out.ef.takes (cntBytes big v) (by rw [cntBytes_length, List.length_append, List.length_replicate]; omega)))
  clear c0 c2
  go_wp2_with fail
  refine (HBW.out).mono ?_
  rintro r w6 ⟨rfl, hr6⟩
  obtain ⟨d3, f3⟩ := HA.out.ef.hR w6 hr6
  have HR6 := Aside0.mk hr6
  clear hr6 HBW
  go_wp2_with fail
  refine bodyPost_end (results_none (by rfl) _ _ _) rfl ⟨rfl, HA.out.trans (HA.out.ef.step HR6.out (q + pd 4 q + 4) _ ?_)⟩
  first | rfl | (congr 1)
end Go.Proofs.YtldjigfnagfalaaGreatDoor.Given
end
section
namespace Go.Proofs.YtldjigfnagfalaaGreatDoor.Given
open Go.RowKit Go.Proofs.YtldjigfnagfalaaGreatDoorW.PrintWords
set_option linter.unusedVariables false
set_option maxHeartbeats 8000000 in
set_option maxRecDepth 100000 in
theorem word_is (T : ByteArray) (h8 : 8 ≤ T.size) : ∃ v : Int, ∀ w : World, Calls Tryz.prog 83 #[.string T] w fun r w' => r = .returned (.int .u64 v) ∧ ∃ m, w' = w.drewN m := by
  have g0 : 0 < T.size := by omega
  have h1 : (1 : Int) < (T.size : Int) := by omega
  have h2 : (2 : Int) < (T.size : Int) := by omega
  have h3 : (3 : Int) < (T.size : Int) := by omega
  have h4 : (4 : Int) < (T.size : Int) := by omega
  have h5 : (5 : Int) < (T.size : Int) := by omega
  have h6 : (6 : Int) < (T.size : Int) := by omega
  have h7 : (7 : Int) < (T.size : Int) := by omega
  let x (i : Nat) (h : i < T.size) : Int := IntKind.u64.wrap ((T[i]'h).toNat : Int)
  let y (i : Nat) (h : i < T.size) (k : Int) : Int := IntKind.u64.wrap (x i h * k)
  let r (a b : Int) : Int := Go.bits .or .u64 a b
  refine ⟨r (r (r (r (r (r (r (x 0 (by omega)) (y 1 (by omega) 256)) (y 2 (by omega) 65536)) (y 3 (by omega) 16777216)) (y 4 (by omega) 4294967296)) (y 5 (by omega) 1099511627776)) (y 6 (by omega) 281474976710656)) (y 7 (by omega) 72057594037927936), fun w => ?_⟩
  go_enter Tryz.func83, Tryz.ntmps83
  go_wp2_with fail
  go_quiet (fail)
  go_wp2_with fail
  go_ret
  exact ⟨rfl, _, rfl⟩
def strSize : Value → Nat
  | .string s => s.size
  | _ => 0
def Asc (s : ByteArray) : Prop := ∀ (i : Nat) (h : i < s.size), ((s[i]'h).toNat : Int) < 128
theorem Asc.cut {s : ByteArray} (h : Asc s) (k n : Nat) : Asc (s.extract k n) := by
  intro i hi
  rw [ByteArray.size_extract] at hi
  rw [ByteArray.getElem_extract]
  exact h (k + i) (by omega)
def Vu (n : Nat) (w : World) (s : Value) (wr : World) : Prop := ∃ T : ByteArray, s = .string T ∧ Asc T ∧ T.size < n ∧ ∃ m, wr = w.drewN m
set_option maxHeartbeats 4000000 in
set_option maxRecDepth 100000 in
theorem valid_ascii (S : ByteArray) (hS : Asc S) (hz : S.size ≤ 1000000) (w : World) :
    Calls Tryz.prog 51 #[.string S] w fun r w' => r = .returned (.bool true) ∧ ∃ m, w' = w.drewN m := by
  go_enter Tryz.func51, Tryz.ntmps51
  go_wp2_with fail
  go_loopw [0] (fun s wr => Aside0 (Vu 1000001 w s wr)) (fun s _ => strSize s)
  case atStart => exact ⟨S, rfl, hS, by omega, 0, rfl⟩
  case round =>
    obtain ⟨T, rfl, hT, hTz, m, rfl⟩ := hrel.out
    clear hrel
    by_cases h0 : 0 < T.size
    · have h1 : (0 : Int) < (T.size : Int) := by omega
      have hb := hT 0 h0
      have HT := Aside0.mk (hT.cut 1 T.size)
      by_cases g8 : (8 : Int) < ((T.size - 1 : Nat) : Int)
      · obtain ⟨v1, hv1⟩ := word_is (T.extract 1 T.size) (by rw [ByteArray.size_extract]; omega)
        have HV1 := Aside0.mk hv1
        clear hv1
        go_wp2_with fail
        refine (HV1.out _).mono ?_
        rintro r w1 ⟨rfl, m1, rfl⟩
        clear HV1
        go_wp2_with fail
        · obtain ⟨T2, hT2⟩ : ∃ T2, (T.extract 1 T.size).extract 8 (T.size - 1) = T2 := ⟨_, rfl⟩
          rw [hT2]
          have hz2 : T2.size = T.size - 9 := by rw [← hT2]; simp only [ByteArray.size_extract]; omega
          have hA2 : Asc T2 := hT2 ▸ (HT.out.cut 8 (T.size - 1))
          clear hT2
          have HA2 := Aside0.mk hA2
          have HZ2 := Aside0.mk hz2
          clear hA2 hz2
          obtain ⟨wa, hwa⟩ : ∃ wa, w.drewN (m + m1) = wa := ⟨_, rfl⟩
          rw [hwa]
          by_cases g16 : (16 : Int) < (T2.size : Int)
          · have d16 : decide ((16 : Int) < (T2.size : Int)) = true := decide_eq_true g16
            have l8 : (8 : Int) ≤ (T2.size : Int) := by omega
            obtain ⟨v2, hv2⟩ := word_is T2 (by omega)
            obtain ⟨v3, hv3⟩ := word_is (T2.extract 8 T2.size) (by rw [ByteArray.size_extract]; omega)
            have HV2 := Aside0.mk hv2
            have HV3 := Aside0.mk hv3
            clear hv2 hv3
            go_big_quiet (first | with_reducible exact Calls.quiet_of (HV2.out _) | with_reducible exact Calls.quiet_of (HV3.out _))
            have HW2 : Aside0 (∃ k, wa.drewN nq = w.drewN k) := ⟨m + m1 + nq, by rw [← hwa]; simp⟩
            obtain ⟨wb, hwb⟩ : ∃ wb, wa.drewN nq = wb := ⟨_, rfl⟩
            rw [hwb] at HW2 ⊢
            clear hwb HV2 HV3
            go_wp2_with fail
            · have HR : Aside0 (Vu T.size w (.string (T2.extract 16 T2.size)) wb) := ⟨_, rfl, HA2.out.cut 16 T2.size, by have := HZ2.out; rw [ByteArray.size_extract]; omega, HW2.out⟩
              clear HW2 HA2 HZ2 HT l8 d16 g16 g8 h1 hb hwa
              go_loopw [0] (fun s wr => Aside0 (Vu T.size w s wr)) (fun s _ => strSize s)
              case atStart => exact HR
              case round =>
                obtain ⟨T3, rfl, hA3, hz3, hk3⟩ := hrel.out
                have HA3 := Aside0.mk hA3
                have HZ3 := Aside0.mk hz3
                have HK3 := Aside0.mk hk3
                clear hrel hA3 hz3 hk3 HR
                by_cases g32 : (32 : Int) < (T3.size : Int)
                · have d32 : decide ((32 : Int) < (T3.size : Int)) = true := decide_eq_true g32
                  have l8 : (8 : Int) ≤ (T3.size : Int) := by omega
                  have l16 : (16 : Int) ≤ (T3.size : Int) := by omega
                  have l24 : (24 : Int) ≤ (T3.size : Int) := by omega
                  have l32 : (32 : Int) ≤ (T3.size : Int) := by omega
                  obtain ⟨v4, hv4⟩ := word_is T3 (by omega)
                  obtain ⟨v5, hv5⟩ := word_is (T3.extract 8 T3.size) (by rw [ByteArray.size_extract]; omega)
                  obtain ⟨v6, hv6⟩ := word_is (T3.extract 16 T3.size) (by rw [ByteArray.size_extract]; omega)
                  obtain ⟨v7, hv7⟩ := word_is (T3.extract 24 T3.size) (by rw [ByteArray.size_extract]; omega)
                  have HV4 := Aside0.mk hv4
                  have HV5 := Aside0.mk hv5
                  have HV6 := Aside0.mk hv6
                  have HV7 := Aside0.mk hv7
                  clear hv4 hv5 hv6 hv7
                  go_wp2_with fail
                  go_big_quiet (first | with_reducible exact Calls.quiet_of (HV4.out _) | with_reducible exact Calls.quiet_of (HV5.out _) | with_reducible exact Calls.quiet_of (HV6.out _) | with_reducible exact Calls.quiet_of (HV7.out _))
                  have HK4 : Aside0 (∃ m, wr.drewN nq = w.drewN m) := ⟨by obtain ⟨k, hk⟩ := HK3.out; exact ⟨k + nq, by rw [hk]; simp⟩⟩
                  clear HV4 HV5 HV6 HV7 HK3
                  go_wp2_with fail
                  · go_roundw
                    case rel => exact ⟨_, rfl, HA3.out.cut 32 T3.size, by have := HZ3.out; rw [ByteArray.size_extract]; omega, HK4.out⟩
                    case measure => simp only [strSize, ByteArray.size_extract]; omega
                  · go_roundw
                    case rel => exact ⟨_, rfl, HA3.out, by have := HZ3.out; omega, HK4.out⟩
                    case measure => have := HZ3.out; simp only [strSize]; omega
                · have d32 : decide ((32 : Int) < (T3.size : Int)) = false := decide_eq_false g32
                  go_wp2_with fail
                  go_big_quiet (fail)
                  have HK4 : Aside0 (∃ m, wr.drewN nq = w.drewN m) := ⟨by obtain ⟨k, hk⟩ := HK3.out; exact ⟨k + nq, by rw [hk]; simp⟩⟩
                  clear HK3
                  go_wp2_with fail
                  go_roundw
                  case rel => exact ⟨_, rfl, HA3.out, by have := HZ3.out; omega, HK4.out⟩
                  case measure => have := HZ3.out; simp only [strSize]; omega
            · go_roundw
              case rel => exact ⟨_, rfl, HA2.out, by have := HZ2.out; omega, HW2.out⟩
              case measure => have := HZ2.out; simp only [strSize]; omega
          · have d16 : decide ((16 : Int) < (T2.size : Int)) = false := decide_eq_false g16
            go_big_quiet (fail)
            go_wp2_with fail
            go_roundw
            case rel => exact ⟨_, rfl, HA2.out, by have := HZ2.out; omega, m + m1 + nq, by rw [← hwa]; simp⟩
            case measure => have := HZ2.out; simp only [strSize]; omega
        · refine ⟨⟨_, rfl, HT.out, by rw [ByteArray.size_extract]; omega, _, rfl⟩, ?_⟩
          simp only [strSize, ByteArray.size_extract]; omega
      · go_wp2_with fail
        go_roundw
        case rel => exact ⟨_, rfl, HT.out, by rw [ByteArray.size_extract]; omega, m, rfl⟩
        case measure => simp only [strSize, ByteArray.size_extract]; omega
    · go_wp2_with fail
      go_ret
      exact ⟨rfl, _, rfl⟩
end Go.Proofs.YtldjigfnagfalaaGreatDoor.Given
end
section
namespace Go.Proofs.YtldjigfnagfalaaGreatDoor.Given
open Go.RowKit Go.Proofs.YtldjigfnagfalaaGreatDoorW.PrintWords
set_option linter.unusedVariables false
theorem cf99 (s : ByteArray) (W : World) (h : firstIdx s 0 = -1) : (callFunc 99 #[.string s, .int .u8 0]).run Tryz.prog W = .ok (.value (.int .i64 (-1))) W := by
  have h1 : (callFunc 99 #[.string s, .int .u8 0]).run Tryz.prog W = ((Extern.BytealgIndexByte.indexByte #[.string s, .int .u8 0]).run Tryz.prog W).andThen fun v w' => .ok (.value v) w' :=
    run_callFunc_extern Tryz.func99 (by kernel_rfl) (by kernel_rfl) (by kernel_rfl) (by kernel_rfl) _ W
  rw [h1, run_indexByte_string]
  have h2 : firstIdx s ((0 : Int).toNat.toUInt8) = -1 := h
  rw [h2]
  rfl
theorem firstIdx_none (s : ByteArray) (h : ∀ (i : Nat) (hi : i < s.size), (s[i]'hi) ≠ 0) : firstIdx s 0 = -1 := by
  unfold firstIdx
  have : (List.range s.size).find? (fun i => s[i]! == 0) = none := by
    rw [List.find?_eq_none]
    intro i hi
    have hi2 := List.mem_range.1 hi
    have := h i hi2
    simp only [getElem!_pos s i hi2, beq_iff_eq]
    exact this
  rw [this]
theorem index0 (S : ByteArray) (hn : ∀ (i : Nat) (hi : i < S.size), (S[i]'hi) ≠ 0) (w : World) :
    Calls Tryz.prog 52 #[.string S, .int .u8 0] w fun r w' => r = .returned (.int .i64 (-1)) ∧ w = w' := by
  have hc := fun W => cf99 S W (firstIdx_none S hn)
  have hm : ∀ w, Calls Tryz.prog 84 #[.string S, .int .u8 0] w fun r w' => r = .returned (.int .i64 (-1)) ∧ w = w' := fun w => by
    go_enter Tryz.func84, Tryz.ntmps84
    go_wp2
    go_ret
    exact ⟨rfl, rfl⟩
  go_enter Tryz.func52, Tryz.ntmps52
  go_wp2_with (go_at_call 84; refine (hm _).mono ?_; rintro r w1 ⟨rfl, rfl⟩)
  go_ret
  exact ⟨rfl, rfl⟩
end Go.Proofs.YtldjigfnagfalaaGreatDoor.Given
end
section
namespace Go.Proofs.YtldjigfnagfalaaGreatDoor.PNl
open Go.RowKit Go.Proofs.YtldjigfnagfalaaGreatDoorW.PrintWords Go.Proofs.YtldjigfnagfalaaGreatDoorW.PrintLast Go.Proofs.YtldjigfnagfalaaGreatDoorW.PrintMore
attribute [local go_sem] max2_int min2_int max_two min_two max_three min_three max_four min_four   -- for this text's walks alone
set_option linter.unusedVariables false
set_option linter.unusedSimpArgs false
def errW : Option Int → Value
  | none => .nilIface
  | some c => .iface 0 (.int .i64 c)
theorem errW_none : errW none = .nilIface := rfl
theorem errW_some (c : Int) : errW (some c) = .iface 0 (.int .i64 c) := rfl
theorem info9 : (Tryz.prog.info? 9).map (fun i => (i.zero, i.size, i.bytes)) = some (some (.string ⟨#[]⟩), 1, 16) := by kernel_rfl
end Go.Proofs.YtldjigfnagfalaaGreatDoor.PNl
end

/- The state of an encoder over a buffer of its own, and one step of it. -/
import Derived.Test.YtldjigfnagfalaaGreatDoorGvTk
import Derived.Lib.BufferWrite
import Derived.Lib.BufferMore
namespace Go.Proofs.YtldjigfnagfalaaGreatDoor.Given
open Go.RowKit Go.Proofs.YtldjigfnagfalaaGreatDoorW.PrintWords
set_option linter.unusedVariables false
/-- A store into another block of another type leaves the buffer. -/
theorem buf_set {B b e i : Nat} {bs : List Value} {w : World} (h : Lib.IsBuffer 68 5 B b bs w) {cs : Array Value} (he : w.heap[e]? = some (.cells cs 94 (0, 0))) (v : Value) : Lib.IsBuffer 68 5 B b bs (w.setCell ⟨e, i, none⟩ v) := by
  obtain ⟨hB, lr, hc⟩ := h.cases
  rcases hc with ⟨rfl, hbk⟩ | ⟨g, cap, cur, hbk, hBg, hg, hnc, hcm, hcs, htk, hgb⟩
  · have hne : b ≠ e := by rintro rfl; rw [hbk] at he; simp at he
    have hbk' := (heap_setCell_other w ⟨e, i, none⟩ b v hne).trans hbk
    exact ⟨hB, .slice none 0 0, lr, hbk', World.ownsRow_nil _ _ _ _, by simp [Value.ownBlock]⟩
  · have hne : b ≠ e := by rintro rfl; rw [hbk] at he; simp at he
    have hne2 : g ≠ e := by rintro rfl; rw [hg] at he; simp at he
    have hbk' := (heap_setCell_other w ⟨e, i, none⟩ b v hne).trans hbk
    have hg' := (heap_setCell_other w ⟨e, i, none⟩ g v hne2).trans hg
    have h2 := Lib.isBuffer_mk hB hbk' hBg hg' hnc hcm hcs hgb
    rw [htk] at h2
    exact h2
/-- An encoder at e, over the buffer at b, which holds bs; its next place is q. -/
structure En (w : World) (B e b : Nat) (o : TypeId) (q : Int) (bs : List UInt8) : Prop where
  enc : w.heap[e]? = some (.cells #[.iface 71 (.pointer (some ⟨b, 0, none⟩)), .slice none 0 0, .iface o (.agg #[]), .int .i64 q] 94 (0, 0))
  buf : Lib.IsBuffer 68 5 B b (Lib.byteCells bs) w
  lo : B ≤ e
  low : B ≤ w.heap.size
theorem En.c0 {w : World} {B e b : Nat} {o : TypeId} {q : Int} {bs : List UInt8} (h : En w B e b o q bs) : w.cell? ⟨e, 0, none⟩ = some (.iface 71 (.pointer (some ⟨b, 0, none⟩))) := by rw [Lib.cell_of_heap h.enc]; rfl
theorem En.c2 {w : World} {B e b : Nat} {o : TypeId} {q : Int} {bs : List UInt8} (h : En w B e b o q bs) : w.cell? ⟨e, 2, none⟩ = some (.iface o (.agg #[])) := by rw [Lib.cell_of_heap h.enc]; rfl
theorem En.c3 {w : World} {B e b : Nat} {o : TypeId} {q : Int} {bs : List UInt8} (h : En w B e b o q bs) : w.cell? ⟨e, 3, none⟩ = some (.int .i64 q) := by rw [Lib.cell_of_heap h.enc]; rfl
/-- What Write hands on. -/
def Rt (w : World) (B b : Nat) (bs : List UInt8) (w' : World) : Prop := Lib.IsBuffer 68 5 B b (Lib.byteCells bs) w' ∧ Below B w w' ∧ Lib.OthersKept 5 (some b) w w'
theorem En.keeps {w w' : World} {B e b : Nat} {o : TypeId} {q : Int} {bs bs2 : List UInt8} (h : En w B e b o q bs) (hr : Rt w B b bs2 w') : w'.heap[e]? = some (.cells #[.iface 71 (.pointer (some ⟨b, 0, none⟩)), .slice none 0 0, .iface o (.agg #[]), .int .i64 q] 94 (0, 0)) := by
  refine hr.2.2 e _ h.enc ?_ (by intro c fz hc; cases hc)
  intro hx
  obtain rfl := Option.some.inj hx
  obtain ⟨_, lr, hc⟩ := h.buf.cases
  rcases hc with ⟨_, hbk⟩ | ⟨_, _, _, hbk, _⟩
  · have := h.enc.symm.trans hbk; simp at this
  · have := h.enc.symm.trans hbk; simp at this
theorem En.step {w w1 : World} {B e b : Nat} {o : TypeId} {q q2 : Int} {bs bs2 : List UInt8} (h : En w B e b o q bs) (hr : Rt w B b bs2 w1) : En (w1.setCell ⟨e, 3, none⟩ (.int .i64 q2)) B e b o q2 bs2 ∧ Below B w (w1.setCell ⟨e, 3, none⟩ (.int .i64 q2)) := by
  have hk := h.keeps hr
  have hb := hr.2.1.setCell (p := ⟨e, 3, none⟩) h.lo (.int .i64 q2)
  exact ⟨⟨heap_setCell_same w1 e 3 _ 94 _ hk, buf_set hr.1 hk _, h.lo, Nat.le_trans h.low (Nat.le_trans hr.2.1.size (by simp [World.setCell]))⟩, hb⟩
end Go.Proofs.YtldjigfnagfalaaGreatDoor.Given

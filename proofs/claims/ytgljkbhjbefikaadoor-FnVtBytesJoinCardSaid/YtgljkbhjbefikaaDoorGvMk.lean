/- make of an empty row with room. -/
import Derived.Test.YtgljkbhjbefikaaDoorProg
import Derived.Test.YtgljkbhjbefikaaDoorWWords
import Derived.Laws.MakeOwn
import Derived.Laws.OwnMore
namespace Go.Proofs.YtgljkbhjbefikaaDoor.Given
open Go.RowKit Go.Proofs.YtgljkbhjbefikaaDoorW.PrintWords Go.Proofs.YtgljkbhjbefikaaDoorW.PrintWords.Kd
section
variable {P : Program} {ops : Array Oper} {rest : List Oper} {o : Oper} {a : Act} {Q : Exit → Act → World → Prop} {α : Type}
/-- make([]T, 0, c), c a written number: a row of one's own without elements. -/
theorem R_make0 (c : Nat) (hc : c ≤ 1048576) {bytes : Nat} (hbb : bytes ≤ 1048576) (d : Kd α) {w0 W : World} (base e : Nat) (hgd : o.guard = none) {N : Tmp} (_hd : o.dst = some N) (t : TypeId) (x y : Operand) (ho : o.op = .makeSlice t x y) (hx : a.eval x = .int .i64 0) (hy : a.eval y = .int .i64 (c : Int))
    (ht : P.underlying t = some (.slice e)) (z : Value) (hinfo : (P.info? e).map (fun i => (i.zero, i.size, i.bytes)) = some (some z, d.sz, bytes)) {ok : Nat → Prop} (hfresh : ok W.heap.size) (HB : Below base w0 W) (hbase : base ≤ W.heap.size)
    (h : ∀ v1 w1, d.R e w1 base ok v1 [] → Below base w0 w1 → W.grownBy w1 none → (∃ b, v1.ownBlock = some b ∧ W.heap.size ≤ b) → wpList P ops Q rest (a.put o.dst v1) w1) : wpList P ops Q (o :: rest) a W := by
  obtain ⟨i0, hi, hzz⟩ := Option.map_eq_some_iff.1 hinfo
  simp only [Prod.mk.injEq] at hzz
  obtain ⟨hz0, hz1, hz2⟩ := hzz
  have hcb : bytes * c ≤ 281474976710656 := Nat.le_trans (Nat.mul_le_mul hbb hc) (by decide)
  have hcb' : (i0.bytes : Int) * (c : Int) ≤ 281474976710656 := by
    rw [hz2]
    have h3 : ((bytes * c : Nat) : Int) ≤ 281474976710656 := by omega
    rwa [Int.natCast_mul] at h3
  have hr := run_make (P := P) W t e i0 z ht hi hz0 .i64 .i64 0 (c : Int) (Int.le_refl _) (by omega) hcb' (by omega)
  simp only [Int.toNat_zero, Int.toNat_natCast] at hr
  have hown := World.ownsRow_made (base := base) (e := e) (size := d.sz) W (madeCells z.cells (c * i0.size)) c hbase (by simp only [maxLen]; omega) (by rw [hz1]; exact size_madeCells _ _)
  have hrun : (execOp a.eval o).run P W = .ok (.value (.slice (some ⟨W.heap.size, 0, none⟩) 0 c)) (W.alloc (.cells (madeCells z.cells (c * i0.size)) e)) := by simp [execOp, ho, hx, hy, hr]
  refine event_run hgd hrun (h _ _ ⟨fun k hk => ?_, [], ?_, ?_⟩ (HB.alloc hbase _) (World.grownBy_alloc W _ none) ⟨W.heap.size, by simp [Value.ownBlock], Nat.le_refl _⟩)
  · have : W.heap.size = k := by simpa [Value.ownBlock] using hk
    subst this
    exact hfresh
  · exact hown
  · exact Reps.none _ _
end
end Go.Proofs.YtgljkbhjbefikaaDoor.Given

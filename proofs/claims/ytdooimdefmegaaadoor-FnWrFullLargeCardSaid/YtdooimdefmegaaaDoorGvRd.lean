/- The door's reader of pieces: what its memory says. -/
import Derived.Test.YtdooimdefmegaaaDoorProg
import Derived.Test.YtdooimdefmegaaaDoorWWords
import Derived.WalkKit
import Derived.Below
import Derived.LoopTactic
import Derived.Laws.Rows
import Derived.WalkLawsBesides
import Derived.Deep.QuietTactic
import Derived.BigQuiet
import Derived.Deep.LoopGhost
import Derived.Outline
import Derived.Lib.BufferWrite
namespace Go.Proofs.YtdooimdefmegaaaDoor.Given
open Go.RowKit Go.Proofs.YtdooimdefmegaaaDoorW.PrintWords

/-- What stands in the pieces. -/
def flat (P : List ByteArray) : List Int := (P.map bytesOf).flatten

/-- Blocks R and g may have turned, and what is new; nothing else. -/
structure Fr (w w' : World) (R g : Nat) : Prop where
  os : w'.os = w.os
  tape : w'.tape = w.tape
  output : w'.output = w.output
  size : w.heap.size ≤ w'.heap.size
  block : ∀ b : Nat, b < w.heap.size → b ≠ R → b ≠ g → w'.heap[b]? = w.heap[b]?

theorem Fr.refl (w : World) (R g : Nat) : Fr w w R g := ⟨rfl, rfl, rfl, Nat.le_refl _, fun _ _ _ _ => rfl⟩
theorem Fr.trans {a b c : World} {R g : Nat} (h : Fr a b R g) (k : Fr b c R g) : Fr a c R g :=
  ⟨k.os.trans h.os, k.tape.trans h.tape, k.output.trans h.output, Nat.le_trans h.size k.size, fun i hi h1 h2 => (k.block i (Nat.lt_of_lt_of_le hi h.size) h1 h2).trans (h.block i hi h1 h2)⟩
theorem Fr.of_below {w w' : World} {R g : Nat} (h : Below w.heap.size w w') : Fr w w' R g := ⟨h.os, h.tape, h.output, h.size, fun b hb _ _ => h.block b hb⟩
theorem Fr.set {w : World} {R g : Nat} {p : Addr} (hp : p.block = R ∨ p.block = g ∨ w.heap.size ≤ p.block) (u : Value) : Fr w (w.setCell p u) R g :=
  ⟨rfl, rfl, rfl, by simp [World.setCell], fun b hb h1 h2 => Below.heap_setCell w p u b (by rcases hp with h | h | h <;> omega)⟩
theorem Fr.grown {w w' : World} {R g : Nat} (h : w.grownBy w' (some g)) : Fr w w' R g := ⟨h.os, h.tape, h.output, h.size, fun b hb _ h2 => h.block b hb (by intro e; exact h2 (Option.some.inj e))⟩
theorem Fr.drewN {w w' : World} {R g : Nat} (h : Fr w w' R g) (n : Nat) : Fr w (w'.drewN n) R g := ⟨h.os, h.tape, h.output, h.size, h.block⟩
theorem Fr.below {w0 w w' : World} {R g : Nat} {B : Nat} (h : Below B w0 w) (hf : Fr w w' R g) (hR : B ≤ R) (hg : B ≤ g) (hB : B ≤ w.heap.size) : Below B w0 w' :=
  ⟨hf.os.trans h.os, hf.tape.trans h.tape, hf.output.trans h.output, Nat.le_trans h.size hf.size, fun b hb => (hf.block b (by omega) (by omega) (by omega)).trans (h.block b hb)⟩

/-- The reader's block R: its pieces P, which lie neither there nor in block g. -/
def Rd (w : World) (R g : Nat) (P : List ByteArray) : Prop :=
  ∃ (A : Option Addr) (c : Nat) (rd : Int), w.heap[R]? = some (.cells #[.slice A P.length c, .int .i64 rd] 45 (0, 0)) ∧ P.length ≤ c ∧ Kd.string.C w A P.length P ∧ (∀ ad, A = some ad → 0 < P.length → ad.block ≠ R ∧ ad.block ≠ g)
/-- The bytes of block g. -/
def Bts (w : World) (g : Nat) (bs : List Int) : Prop := w.heap[g]? = some (.cells (bs.map (Value.int .u8)).toArray 5 (0, 0))

theorem C_fr {w w' : World} {R g n : Nat} {A : Option Addr} {P : List ByteArray} (h : Kd.string.C w A n P) (hne : ∀ ad, A = some ad → 0 < n → ad.block ≠ R ∧ ad.block ≠ g) (hf : Fr w w' R g) : Kd.string.C w' A n P := by
  refine ⟨h.1, h.2.1, fun hn => ?_⟩
  obtain ⟨ad, e, hc⟩ := h.2.2 hn
  have h2 := hne ad e hn
  refine ⟨ad, e, fun j p hj => ?_⟩
  obtain ⟨c, hs, hr, hcell⟩ := hc j p hj
  refine ⟨c, hs, hr, fun i u hu => ?_⟩
  have h3 := hcell i u hu
  have hb := block_lt_of_cell h3
  have e2 : (ad.add (j * Kd.string.sz + i)).block = ad.block := by unfold Addr.add; split <;> rfl
  rw [e2] at hb
  rw [← h3]
  refine World.cell?_of_block ?_
  rw [e2]
  exact hf.block ad.block hb h2.1 h2.2

theorem flat_nil_of {P : List ByteArray} (h : flat P = []) : ∀ s ∈ P, s.size = 0 := by
  intro s hs
  have : bytesOf s = [] := by
    have h1 := List.flatten_eq_nil_iff.mp h (bytesOf s) (List.mem_map_of_mem hs)
    exact h1
  rw [← bytesOf_length, this]; rfl
theorem flat_cons (s : ByteArray) (P : List ByteArray) : flat (s :: P) = bytesOf s ++ flat P := rfl
theorem flat_empty {s : ByteArray} {P : List ByteArray} (h : s.size = 0) : flat (s :: P) = flat P := by
  rw [flat_cons, List.eq_nil_of_length_eq_zero (show (bytesOf s).length = 0 by rw [bytesOf_length]; exact h), List.nil_append]

/-- copy(dst, s), as much of s as fits. -/
theorem run_copy_min {P : Program} (w : World) (dT sT ty elem : TypeId) (g o dLen dCap k : Nat) (s : ByteArray) (cur : Array Value) (t : TypeId)
    (hu : P.underlying dT = some (.slice elem)) (hs : (P.info? elem).map (·.size) = some 1) (hg : w.heap[g]? = some (.cells cur t (0, 0))) (hk : Nat.min s.size dLen = k) (hfit : o + k ≤ cur.size) :
    (Builtin.copy_ #[dT, sT] ty #[.slice (some ⟨g, o, none⟩) dLen dCap, .string s]).run P w =
      .ok (goInt k) (w.setRow g (cur.toList.take o ++ (Lib.byteCells s.data.toList).take k ++ cur.toList.drop (o + k)).toArray) := by
  have hlen : ((Lib.byteCells s.data.toList).take k).length = k := by
    have h1 : (Lib.byteCells s.data.toList).length = s.size := by rw [Lib.byteCells_length, ← Lib.size_eq]
    have h2 : k ≤ s.size := by rw [← hk]; exact Nat.min_le_left _ _
    rw [List.length_take, h1]; omega
  have hst := run_storeCells_at P g o t ((Lib.byteCells s.data.toList).take k) 0 cur w hg (by rw [hlen]; simpa using hfit) (fun v hv => Lib.byteCells_one _ v (List.mem_of_mem_take hv))
  have htk : List.take k (List.map (fun b : UInt8 => Value.int IntKind.u8 (b.toNat : Int)) s.data.toList) = (Lib.byteCells s.data.toList).take k := rfl
  rw [hlen] at hst
  simp only [Nat.add_zero] at hst
  cases hq : P.info? elem with
  | none => simp [hq] at hs
  | some i =>
    simp [Builtin.copy_, run_underlying hu, Builtin.lenOf, Builtin.firstCells, sizeOf, typeInfo, hq, hk]
    rw [htk, hst]
    simp [Result.andThen]

section
variable {P : Program}
theorem wpList_copy_eq (w : World) {ops : Array Oper} {rest : List Oper} {o : Oper} {a : Act} {Q : Exit → Act → World → Prop} (hgd : o.guard = none) (d s : Operand) (t t' : TypeId)
    (ho : o.op = .call { callee := .builtin .copy, args := #[d, s], argTypes := #[t, t'] }) (v u : Value) (hd : a.eval d = v) (hs : a.eval s = u) {v' : Value} {w' : World}
    (hr : (Builtin.copy_ #[t, t'] o.type #[v, u]).run P w = .ok v' w') (h : wpList P ops Q rest (a.put o.dst v') w') : wpList P ops Q (o :: rest) a w :=
  wpList_plain hgd fun _ hK => by
    unfold Oper.wp execOp
    simp only [ho, resolve, invoke, builtin, Sem.run_bind, Sem.run_pure, Result.andThen_ok, List.map_toArray, List.map_cons, List.map_nil, hd, hs, hr]
    exact hK _ _ h
end

theorem byteCells_bytes (s : ByteArray) : Lib.byteCells s.data.toList = (bytesOf s).map (Value.int .u8) := by
  unfold Lib.byteCells bytesOf
  rw [List.map_map]; rfl
theorem info5 : (Tryd.prog.info? 5).map (·.size) = some 1 := by kernel_rfl

/-- The copy of a piece into the bytes of block g. -/
theorem copy_piece (w : World) (g o m c k : Nat) (s : ByteArray) (bs : List Int) (hb : Bts w g bs) (hk : Nat.min s.size m = k) (hom : o + m ≤ bs.length) :
    ∃ w', (Builtin.copy_ #[36, 9] 3 #[.slice (some ⟨g, o, none⟩) m c, .string s]).run Tryd.prog w = .ok (.int .i64 k) w' ∧ Bts w' g (bs.take o ++ (bytesOf s).take k ++ bs.drop (o + k)) ∧ w.grownBy w' (some g) ∧ w'.heap.size = w.heap.size := by
  have hkm : k ≤ m := by rw [← hk]; exact Nat.min_le_right _ _
  have hr := run_copy_min (P := Tryd.prog) w 36 9 3 5 g o m c k s _ 5 Tryd.underlying36 info5 hb hk (by simp; omega)
  refine ⟨_, hr, ?_, ?_, by simp⟩
  · unfold Bts
    rw [setRow_heap _ _ _ _ 5 (0, 0) hb]
    congr 2
    rw [byteCells_bytes]
    simp [List.map_append, List.map_take, List.map_drop]
  · exact ⟨rfl, rfl, rfl, by simp, fun b _ hne => setRow_other _ _ _ _ (by intro e; exact hne (by rw [e]))⟩
end Go.Proofs.YtdooimdefmegaaaDoor.Given

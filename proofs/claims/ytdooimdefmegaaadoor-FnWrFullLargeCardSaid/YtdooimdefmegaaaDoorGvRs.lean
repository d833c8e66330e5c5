/- readFull over the door's reader, where the buffer grows: its states. -/
import Derived.Test.YtdooimdefmegaaaDoorGvRf
import Derived.Laws.CopyRow
namespace Go.Proofs.YtdooimdefmegaaaDoor.Given
open Go.RowKit Go.Proofs.YtdooimdefmegaaaDoorW.PrintWords

/-- The buffer while it grows: block G, of CC bytes, whose first L are D's. -/
structure St (B R M : Nat) (D : List Int) (P : List ByteArray) (w W : World) (G L CC : Nat) (P' : List ByteArray) (bs : List Int) : Prop where
  rd : Rd W R G P'
  pl : P'.length ≤ P.length
  fl : flat P' = D.drop L
  bt : Bts W G bs
  bl : bs.length = CC
  tk : bs.take L = D.take L
  bg : B ≤ G
  gr : G ≠ R
  g1 : 1 < G
  bw : Below B w W
  rw_ : R < W.heap.size
  ld : L ≤ D.length
  cm : CC ≤ M
  lc : L ≤ CC

theorem rd_grown {w w' : World} {R g : Nat} {P : List ByteArray} (h : Rd w R g P) (hg : w.grownBy w' (some g)) (hRg : R ≠ g) (hR : R < w.heap.size) : Rd w' R g P := by
  obtain ⟨A, c, rd, q1, q2, q3, q4⟩ := h
  exact ⟨A, c, rd, (hg.block R hR (by intro e; exact hRg (Option.some.inj e))).trans q1, q2, C_fr q3 q4 (Fr.grown hg), q4⟩

theorem make_buf (L mm : Nat) (h : L + mm ≤ 4398046511104) : ∀ W : World, (Instr.makeSlice 36 (.int .i64 (L : Int)) (.int .i64 ((L : Int) + (mm : Int)))).run Tryd.prog W = .ok (.slice (some ⟨W.heap.size, 0, none⟩) L (L + mm)) (W.alloc (.cells (madeCells #[.int .u8 0] (L + mm)) 5)) := by
  intro W
  obtain ⟨i0, hi, hzz⟩ := Option.map_eq_some_iff.1 info5'
  simp only [Prod.mk.injEq] at hzz
  obtain ⟨hz0, hz1, hz2⟩ := hzz
  have hr := run_make (P := Tryd.prog) W 36 5 i0 _ Tryd.underlying36 hi hz0 .i64 .i64 (L : Int) ((L : Int) + (mm : Int)) (by omega) (by omega) (by rw [hz2]; omega) (by omega)
  rw [hz1, Nat.mul_one] at hr
  have e : (Value.int .u8 0).cells = #[.int .u8 0] := rfl
  rw [e, show ((L : Int) + (mm : Int)).toNat = L + mm by omega, Int.toNat_natCast] at hr
  exact hr

/-- A larger buffer is made, and what was read is copied into it. -/
theorem grow_st {B R M : Nat} {D : List Int} {P : List ByteArray} {w W : World} {G L CC : Nat} {P' : List ByteArray} {bs : List Int} (h : St B R M D P w W G L CC P' bs) (mm : Nat) (hM : L + mm ≤ M) (hB : B ≤ W.heap.size) :
    ∃ (w2 : World) (bs2 : List Int), (Builtin.copy_ #[36, 36] 3 #[.slice (some ⟨W.heap.size, 0, none⟩) L (L + mm), .slice (some ⟨G, 0, none⟩) L CC]).run Tryd.prog (W.alloc (.cells (madeCells #[.int .u8 0] (L + mm)) 5)) = .ok (.int .i64 L) w2 ∧ St B R M D P w w2 W.heap.size L (L + mm) P' bs2 := by
  have hb := bts_made W (L + mm)
  have hG : G < W.heap.size := (Array.getElem?_eq_some_iff.1 h.bt).1
  have hlc := h.lc
  have hbl := h.bl
  have hg1 := h.g1
  have hbg := h.bg
  have hcs : ((bs.take L).map (Value.int .u8)).length = L := by rw [List.length_map, List.length_take]; omega
  have hr := run_copy_row (P := Tryd.prog) (W.alloc (.cells (madeCells #[.int .u8 0] (L + mm)) 5)) 36 36 3 5 W.heap.size 0 L (L + mm) ⟨G, 0, none⟩ L CC _ 5 ((bs.take L).map (Value.int .u8)) Tryd.underlying36 info5 hb (by rw [hcs]; simp) (fun j v hj => by
      have hj2 : bs[j]? = some ((bs.take L)[j]?.getD 0) ∧ v = .int .u8 ((bs.take L)[j]?.getD 0) := by
        rw [List.getElem?_map] at hj
        cases hq : (bs.take L)[j]? with
        | none => rw [hq] at hj; cases hj
        | some q =>
          rw [hq] at hj
          have hjl : j < L := by have := (List.getElem?_eq_some_iff.1 hq).1; rw [List.length_take] at this; omega
          rw [List.getElem?_take_of_lt hjl] at hq
          exact ⟨by rw [hq]; rfl, (Option.some.inj hj).symm⟩
      have hc : W.cell? ⟨G, j, none⟩ = some v := by
        rw [cell_of_row W G j _ _ _ h.bt]
        rw [hj2.2]
        simp [hj2.1]
      have e : (⟨G, 0, none⟩ : Addr).add j = ⟨G, j, none⟩ := by
        unfold Addr.add
        by_cases hj0 : j = 0 <;> simp [hj0]
      rw [e]
      exact (World.cell?_alloc_lt W _ _ hG).trans hc) (by rw [hcs]; simp) (fun v hv => by
        obtain ⟨y, _, rfl⟩ := List.mem_map.mp hv; rfl)
  rw [hcs] at hr
  have hg2 : (W.alloc (.cells (madeCells #[.int .u8 0] (L + mm)) 5)).grownBy ((W.alloc (.cells (madeCells #[.int .u8 0] (L + mm)) 5)).setRow W.heap.size (((((List.replicate (L + mm) (0 : Int)).map (Value.int .u8)).toArray).toList.take 0 ++ (bs.take L).map (Value.int .u8) ++ (((List.replicate (L + mm) (0 : Int)).map (Value.int .u8)).toArray).toList.drop (0 + L)).toArray)) (some W.heap.size) :=
    ⟨rfl, rfl, rfl, by simp, fun b _ hne => setRow_other _ _ _ _ (by intro e; exact hne (by rw [e]))⟩
  refine ⟨_, bs.take L ++ List.replicate mm 0, hr, ?_⟩
  have hR := h.rw_
  refine ⟨rd_grown (rd_alloc h.rd h.rw_ _) hg2 (by omega) (by simp; omega), h.pl, h.fl, ?_, by rw [List.length_append, List.length_take, List.length_replicate]; omega, ?_, hB, by omega, by omega, ?_, by simp; omega, h.ld, hM, by omega⟩
  · unfold Bts
    rw [setRow_heap _ _ _ _ 5 (0, 0) hb]
    congr 2
    simp
  · rw [List.take_append_of_le_length (by rw [List.length_take]; omega), List.take_take, Nat.min_self]; exact h.tk
  · exact (h.bw.alloc hB _).grown hg2 (by simp; omega) (fun k hk => by cases hk; exact hB)

def Buf (B R n M : Nat) (D : List Int) (P : List ByteArray) (w : World) (wr : World) (v : Value) : Prop :=
  ∃ (g L C : Nat) (P' : List ByteArray) (bs : List Int), v = .slice (some ⟨g, 0, none⟩) L C ∧ L ≤ n ∧ St B R M D P w wr g L C P' bs

/-- Behind a piece that was read whole. -/
theorem buf_step {B R n M : Nat} {D : List Int} {P : List ByteArray} {w W w1 : World} {G L CC mm : Nat} {P' P1 : List ByteArray} {bs : List Int} (h : St B R M D P w W G L CC P' bs) (hn : L + mm ≤ n) (hc : L + mm ≤ CC) (hBR : B ≤ R) (hB : B ≤ W.heap.size)
    (hf : Fr W w1 R G) (hrd : Rd w1 R G P1) (h1 : mm ≤ (flat P').length) (h2 : flat P1 = (flat P').drop mm) (h3 : P1.length ≤ P'.length) (h4 : Bts w1 G (bs.take L ++ (flat P').take mm ++ bs.drop (L + mm))) :
    Buf B R n M D P w w1 (.slice (some ⟨G, 0, none⟩) (L + mm) CC) := by
  have hfl := h.fl
  have hld := h.ld
  have hbl := h.bl
  have hlc := h.lc
  have hlen : (flat P').length = D.length - L := by rw [hfl, List.length_drop]
  refine ⟨G, L + mm, CC, P1, _, rfl, hn, hrd, Nat.le_trans h3 h.pl, by rw [h2, hfl, List.drop_drop], h4, ?_, ?_, h.bg, h.gr, h.g1, Fr.below h.bw hf hBR h.bg hB, Nat.lt_of_lt_of_le h.rw_ hf.size, by omega, h.cm, hc⟩
  · rw [List.length_append, List.length_append, List.length_take, List.length_take, List.length_drop]; omega
  · have e : (bs.take L ++ (flat P').take mm).length = L + mm := by rw [List.length_append, List.length_take, List.length_take]; omega
    have e3 : (bs.take L ++ (flat P').take mm ++ bs.drop (L + mm)).take (L + mm) = bs.take L ++ (flat P').take mm := by rw [← e, List.take_left]
    rw [e3, hfl, h.tk, ← List.take_add]

/-- Where the bytes end too early. -/
theorem rf_short {B R n M room : Nat} {P : List ByteArray} {w W w1 : World} {G L CC mm k : Nat} {P' : List ByteArray} {bs : List Int} {E : Value} (h : St B R M (flat P) P w W G L CC P' bs) (hr : room < n) (hn2 : 65536 < n) (hn : L + mm ≤ n) (hc : L + mm ≤ CC) (hBR : B ≤ R) (hB : B ≤ W.heap.size)
    (hf : Fr W w1 R G) (h1 : (flat P').length < mm) (hk : k = (flat P').length) (h4 : Bts w1 G (bs.take L ++ flat P' ++ bs.drop (L + (flat P').length))) (hE : ∃ t u, E = .iface t u) :
    RfPost B (flat P) room n w (.returned (.tuple #[.slice (some ⟨G, 0, none⟩) (L + k) CC, E])) w1 := by
  have hfl := h.fl
  have hld := h.ld
  have hlen : (flat P').length = (flat P).length - L := by rw [hfl, List.length_drop]
  have e : rfOut (flat P) room n = (flat P, false) := by
    unfold rfOut
    rw [if_neg (by omega), if_neg (by omega)]
  refine ⟨G, L + k, CC, E, bs.drop (L + (flat P').length), rfl, by rw [e]; show L + k = (flat P).length; omega, by omega, by rw [e]; exact .inr ⟨rfl, hE⟩, ?_, Fr.below h.bw hf hBR h.bg hB⟩
  rw [e]
  rw [h.tk, hfl, List.take_append_drop] at h4
  rw [hfl] 
  exact h4

/-- Where all is read. -/
theorem rf_whole {B R n M room : Nat} {P : List ByteArray} {w W : World} {G L CC : Nat} {P' : List ByteArray} {bs : List Int} (h : St B R M (flat P) P w W G L CC P' bs) (hL : L = n) :
    RfPost B (flat P) room n w (.returned (.tuple #[.slice (some ⟨G, 0, none⟩) L CC, .nilIface])) W := by
  subst hL
  have hld := h.ld
  have e : rfOut (flat P) room L = ((flat P).take L, true) := by
    unfold rfOut
    rw [if_pos hld]
  refine ⟨G, L, CC, .nilIface, bs.drop L, rfl, by rw [e]; show L = ((flat P).take L).length; rw [List.length_take]; omega, h.lc, by rw [e]; exact .inl ⟨rfl, rfl⟩, ?_, h.bw⟩
  rw [e]
  show Bts W G ((flat P).take L ++ bs.drop L)
  rw [← h.tk, List.take_append_drop]
  exact h.bt
end Go.Proofs.YtdooimdefmegaaaDoor.Given
